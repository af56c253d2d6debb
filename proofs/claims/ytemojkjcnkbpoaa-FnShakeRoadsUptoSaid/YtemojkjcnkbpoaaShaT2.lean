/-
  SHA-3: the service indicator; read. No condition but where the bytes lie.
-/
import Derived.Test.YtemojkjcnkbpoaaShaT
namespace Go.Proofs.Ytemojkjcnkbpoaa
open Go.RowKit
open Spo
set_option linter.unusedVariables false

theorem getInd (w : World) : (callFunc 26 #[]).run Try.prog w = .ok (.value (.int .u8 0)) w := by
  rw [run_callFunc_extern Try.func26 (by kernel_rfl) (by kernel_rfl) (by kernel_rfl) (e := fun _ => pure (.int .u8 0)) (by kernel_rfl)]
  rfl
theorem setInd (w : World) : (callFunc 27 #[.int .u8 2]).run Try.prog w = .ok (.value (.tuple #[])) w := by
  rw [run_callFunc_extern Try.func27 (by kernel_rfl) (by kernel_rfl) (by kernel_rfl) (e := fun _ => pure (.tuple #[])) (by kernel_rfl)]
  rfl

theorem record_any (w : World) : Calls Try.prog 22 #[] w fun e w' => e = .returned (.tuple #[]) ∧ w' = w := by
  have h1 := getInd w
  have h2 := setInd w
  go_enter Try.func22, Try.ntmps22
  go_wp2_with (first | simp only [h1] | simp only [h2])
  go_end0
  exact ⟨rfl, rfl⟩

set_option maxHeartbeats 1000000 in
theorem read_any {w : World} {h : Nat} {T : TypeId} {a : List UInt8} {n rate out st : Nat} {tl : List Value} (x : UInt8) (d : DG w h T a n rate x.toNat out st tl) (hst : st = 0 ∧ n < rate ∨ st = 1 ∧ n ≤ rate) (b o m c : Nat) (cs : Array Value) (Tb : TypeId)
    (hb : w.heap[b]? = some (.cells cs Tb (0, 0))) (hbh : b ≠ h) (hf : o + m ≤ cs.size) (hmc : m ≤ c) (hc : c ≤ 9223372036854775807) (h0 : 0 < rate) (hr : rate ≤ 200) :
    Calls Try.prog 23 #[.pointer (some ⟨h, 0, none⟩), .slice (some ⟨b, o, none⟩) m c] w fun e w' => e = .returned (.tuple #[.int .i64 (m : Int), .nilIface]) ∧
      DG w' h T (sqzS kf rate m (turned st a n rate x)).1 (sqzS kf rate m (turned st a n rate x)).2 rate x.toNat out 1 tl ∧
      w'.heap[b]? = some (.cells (cs.toList.take o ++ (sqz kf rate m (turned st a n rate x)).map bv ++ cs.toList.drop (o + m)).toArray Tb (0, 0)) ∧ Fr (fun k => k = h ∨ k = b) w w' := by
  have X := Lib.hid (readGeneric_any x d hst b o m c cs Tb hb hbh hf hmc hc h0 hr)
  clear d hst hb
  go_enter Try.func23, Try.ntmps23
  go_wp2_with fail
  refine X.out.mono ?_
  rintro e w1 ⟨rfl, D1, B1, F1⟩
  replace D1 := Lib.hid D1
  replace B1 := Lib.hid B1
  replace F1 := Lib.hid F1
  go_wp2_with fail
  go_ret2
  exact ⟨rfl, D1.out, B1.out, F1.out⟩

end Go.Proofs.Ytemojkjcnkbpoaa

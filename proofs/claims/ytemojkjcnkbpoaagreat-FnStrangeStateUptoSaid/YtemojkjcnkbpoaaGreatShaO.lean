/-
  SHA-3: MarshalBinary of a digest that drinks, and of a SHA3. No condition.
-/
import Derived.Test.YtemojkjcnkbpoaaGreatShaM
namespace Go.Proofs.YtemojkjcnkbpoaaGreat
open Go.RowKit
set_option linter.unusedVariables false

def row207 : Array Value := (List.replicate 207 (Value.int .u8 0)).toArray
theorem row207_size : row207.size = 207 := by unfold row207; rw [List.size_toArray, List.length_replicate]
set_option maxRecDepth 100000 in
theorem make_d (W : World) : (Instr.makeSlice 22 (.int .i64 0) (.int .i64 207)).run Tryz.prog W = .ok (.slice (some ⟨W.heap.size, 0, none⟩) 0 207) (W.alloc (.cells row207 5)) := by kernel_rfl

set_option maxRecDepth 100000 in
set_option maxHeartbeats 1000000 in
theorem dMar_any {w : World} {h : Nat} {T : TypeId} {a : List UInt8} {out : Nat} (xn xr : UInt8) (d : DG w h T a xn.toNat xr.toNat 6 out 0 []) :
    Calls Tryz.prog 65 #[.pointer (some ⟨h, 0, none⟩)] w fun e w' => ∃ g c, e = .returned (.tuple #[.slice (some ⟨g, 0, none⟩) (mag8 ++ [xr] ++ a ++ [xn, 0]).length c, .nilIface]) ∧ Own w' w.heap.size g c (mag8 ++ [xr] ++ a ++ [xn, 0]) ∧ Below w.heap.size w w' := by
  have hmk := fun W => make_d W
  have hhl := d.lt
  have HD := Lib.hid d
  clear d
  go_enter Tryz.func65, Tryz.ntmps65
  go_wp2_with fail
  obtain ⟨V, hV⟩ : ∃ V, w.alloc (.cells row207 5) = V := ⟨_, rfl⟩
  have sV : V.heap.size = w.heap.size + 1 := by subst hV; simp
  have bV : Below w.heap.size w V := by subst hV; exact (Below.refl _ _).alloc (Nat.le_refl _) _
  have oV : Own V w.heap.size w.heap.size 207 [] := by
    subst hV
    exact ⟨rfl, .inr ⟨w.heap.size, 207, _, rfl, Nat.le_refl _, heap_alloc_new w _, by simp, by simp [maxLen], by rw [row207_size], rfl⟩⟩
  rw [hV]
  clear hV
  refine (shaAppend_any xn xr (HD.out.keep (bV.block h hhl)) w.heap.size w.heap.size 207 oV (by omega) hhl).mono ?_
  rintro e w' ⟨g', c', rfl, o1, b1⟩
  obtain ⟨m, hm⟩ : ∃ m, m = (mag8 ++ [xr] ++ a ++ [xn, 0]).length := ⟨_, rfl⟩
  rw [← hm]
  have bw := bV.trans b1
  have HMM := Lib.hid hm
  clear hm b1
  go_wp2_with fail
  go_ret2
  exact ⟨g', c', by rw [HMM.out]; rfl, o1, bw⟩

set_option maxRecDepth 100000 in
set_option maxHeartbeats 1000000 in
theorem sMar_any {w : World} {h : Nat} {T : TypeId} {a : List UInt8} {out : Nat} (xn xr : UInt8) (d : DG w h T a xn.toNat xr.toNat 6 out 0 []) (ho : 0 < out) :
    Calls Tryz.prog 58 #[.pointer (some ⟨h, 0, none⟩)] w fun e w' => ∃ g c, e = .returned (.tuple #[.slice (some ⟨g, 0, none⟩) (mag8 ++ [xr] ++ a ++ [xn, 0]).length c, .nilIface]) ∧ Own w' w.heap.size g c (mag8 ++ [xr] ++ a ++ [xn, 0]) ∧ Below w.heap.size w w' := by
  have X := Lib.hid (dMar_any xn xr d)
  have Y := Lib.hid (init_any d ho)
  obtain ⟨m, hm⟩ : ∃ m, m = (mag8 ++ [xr] ++ a ++ [xn, 0]).length := ⟨_, rfl⟩
  rw [← hm] at X ⊢
  clear d hm
  go_enter Tryz.func58, Tryz.ntmps58
  go_wp2_with (first | (go_at_call 64; refine Y.out.mono ?_; rintro e w0 ⟨rfl, rfl⟩) | (go_at_call 65; refine X.out.mono ?_; rintro e w1 ⟨g, c, rfl, O1, B1⟩; replace O1 := Lib.hid O1; replace B1 := Lib.hid B1))
  go_ret2
  exact ⟨g, c, rfl, O1.out, B1.out⟩

end Go.Proofs.YtemojkjcnkbpoaaGreat

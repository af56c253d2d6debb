/-
  SHAKE: a new one, of either width; Write and Read. No condition but where the bytes lie.
-/
import Derived.Test.YtemojkjcnkbpoaaShaT2
namespace Go.Proofs.Ytemojkjcnkbpoaa
open Go.RowKit
open Spo
set_option linter.unusedVariables false

theorem wpList_run_build3 {P : Program} {w : World} {ops : Array Oper} {rest : List Oper} {o : Oper} {a : Act} {Q : Exit → Act → World → Prop} (hgd : o.guard = none) (t : TypeId) (i j k : Nat) (x y z : Value) (ho : o.op = .build t #[(i, .const x), (j, .const y), (k, .const z)]) (v : Value)
    (hrun : (Instr.build t #[(i, x), (j, y), (k, z)]).run P w = .ok v w) (h : wpList P ops Q rest (a.put o.dst v) w) : wpList P ops Q (o :: rest) a w := by
  refine wpList_plain hgd fun _ hK => ?_
  unfold Oper.wp execOp
  simp only [ho, List.map_toArray, List.map_cons, List.map_nil, Act.eval, Sem.run_bind, hrun, Result.andThen_ok, Sem.run_pure]
  exact hK _ _ h
theorem wpList_run_load1 {P : Program} {w : World} {ops : Array Oper} {rest : List Oper} {o : Oper} {a : Act} {Q : Exit → Act → World → Prop} (hgd : o.guard = none) (t : TypeId) (x : Operand) (ho : o.op = .load t x) (v0 v : Value) (hx : a.eval x = v0)
    (hrun : (Instr.loadAt t v0).run P w = .ok v w) (h : wpList P ops Q rest (a.put o.dst v) w) : wpList P ops Q (o :: rest) a w := by
  refine wpList_plain hgd fun _ hK => ?_
  unfold Oper.wp execOp
  simp only [ho, hx, Sem.run_bind, hrun, Result.andThen_ok, Sem.run_pure]
  exact hK _ _ h

theorem load_sk (W : World) (g : Nat) (T : TypeId) (cs : Array Value) (hg : W.heap[g]? = some (.cells cs T (0, 0))) (hz : cs.size = 206) : (Instr.loadAt 42 (.pointer (some ⟨g, 0, none⟩))).run Try.prog W = .ok (.agg cs) W := by
  unfold Instr.loadAt
  simp only [Instr.sureAddr, Sem.run_bind, Sem.run_pure, Result.andThen_ok]
  exact run_loadVar_row W g T _ cs (0, 0) _ hg Try.underlying42 rfl (by rw [hz]; kernel_rfl)

def zeros : List UInt8 := List.replicate 200 0
def tlS : List Value := [.slice none 0 0]

set_option maxRecDepth 100000 in
theorem build_k128 (W : World) : (Instr.build 40 #[(2, .int .i64 168), (4, .int .i64 32), (3, .int .u8 31)]).run Try.prog W = .ok (.agg (dgL zeros 0 168 31 32 0 []).toArray) W := by kernel_rfl
set_option maxRecDepth 100000 in
theorem build_f128 (W : World) : (Instr.build 42 #[(0, .agg (dgL zeros 0 168 31 32 0 []).toArray)]).run Try.prog W = .ok (.agg (dgL zeros 0 168 31 32 0 tlS).toArray) W := by kernel_rfl
set_option maxRecDepth 100000 in
theorem build_c128 (W : World) : (Instr.build 46 #[(0, .agg (dgL zeros 0 168 31 32 0 tlS).toArray)]).run Try.prog W = .ok (.agg (dgL zeros 0 168 31 32 0 tlS).toArray) W := by kernel_rfl
set_option maxRecDepth 100000 in
set_option maxHeartbeats 1000000 in
theorem newF128 (w : World) : Calls Try.prog 14 #[] w fun e w' => e = .returned (.pointer (some ⟨w.heap.size, 0, none⟩)) ∧ w'.heap[w.heap.size]? = some (.cells (dgL zeros 0 168 31 32 0 tlS).toArray 42 (0, 0)) ∧ Below w.heap.size w w' ∧ w'.heap.size = w.heap.size + 1 := by
  have hb := build_k128
  have hf := build_f128
  obtain ⟨cs, hcs⟩ : ∃ cs, (dgL zeros 0 168 31 32 0 []).toArray = cs := ⟨_, rfl⟩
  simp only [hcs] at hb hf
  clear hcs
  obtain ⟨cf, hcf⟩ : ∃ cf, (dgL zeros 0 168 31 32 0 tlS).toArray = cf := ⟨_, rfl⟩
  rw [hcf]
  simp only [hcf] at hf
  clear hcf
  go_enter Try.func14, Try.ntmps14
  go_wp2_with (first | refine wpList_run_build3 rfl 40 2 4 3 (.int .i64 168) (.int .i64 32) (.int .u8 31) rfl (.agg cs) (hb _) ?_ | refine wpList_run_build1 rfl 42 0 (.tmp 1) rfl (.agg cs) (.agg cf) rfl (hf _) ?_)
  go_ret
  exact ⟨rfl, heap_alloc_new w _, (Below.refl _ _).alloc (Nat.le_refl _) _, by simp⟩
set_option maxRecDepth 100000 in
set_option maxHeartbeats 1000000 in
theorem newK128 (w : World) : Calls Try.prog 8 #[] w fun e w' => ∃ h, e = .returned (.pointer (some ⟨h, 0, none⟩)) ∧ DG w' h 46 zeros 0 168 31 32 0 tlS ∧ w.heap.size ≤ h ∧ h < w'.heap.size ∧ Below w.heap.size w w' := by
  have hb := build_c128
  have hz : (dgL zeros 0 168 31 32 0 tlS).toArray.size = 206 := by kernel_rfl
  have X := newF128 w
  obtain ⟨cs, hcs⟩ : ∃ cs, (dgL zeros 0 168 31 32 0 tlS).toArray = cs := ⟨_, rfl⟩
  simp only [hcs] at hb hz X
  have HE := Lib.hid hcs
  have HX := Lib.hid X
  clear hcs X
  go_enter Try.func8, Try.ntmps8
  go_upto_region 1 with fail
  go_wp2_with (first
    | (go_at_call 14; refine HX.out.mono ?_; rintro e w1 ⟨rfl, D1, B1, z1⟩; have L1 := load_sk w1 w.heap.size 42 cs D1 hz; replace B1 := Lib.hid B1; replace z1 := Lib.hid z1; clear D1)
    | refine wpList_run_load1 rfl 42 (.tmp 2) rfl (.pointer (some ⟨w.heap.size, 0, none⟩)) (.agg cs) rfl L1 ?_
    | refine wpList_run_build1 rfl 46 0 (.tmp 3) rfl (.agg cs) (.agg cs) rfl (hb _) ?_)
  go_ret
  have hz1 := z1.out
  refine ⟨_, rfl, ⟨?_, rfl⟩, by omega, ?_, (B1.out).alloc (by omega) _⟩
  · have := HE.out
    rw [this]
    exact heap_alloc_new w1 _
  · simp
set_option maxRecDepth 100000 in
theorem build_k256 (W : World) : (Instr.build 40 #[(2, .int .i64 136), (4, .int .i64 64), (3, .int .u8 31)]).run Try.prog W = .ok (.agg (dgL zeros 0 136 31 64 0 []).toArray) W := by kernel_rfl
set_option maxRecDepth 100000 in
theorem build_f256 (W : World) : (Instr.build 42 #[(0, .agg (dgL zeros 0 136 31 64 0 []).toArray)]).run Try.prog W = .ok (.agg (dgL zeros 0 136 31 64 0 tlS).toArray) W := by kernel_rfl
set_option maxRecDepth 100000 in
theorem build_c256 (W : World) : (Instr.build 46 #[(0, .agg (dgL zeros 0 136 31 64 0 tlS).toArray)]).run Try.prog W = .ok (.agg (dgL zeros 0 136 31 64 0 tlS).toArray) W := by kernel_rfl
set_option maxRecDepth 100000 in
set_option maxHeartbeats 1000000 in
theorem newF256 (w : World) : Calls Try.prog 15 #[] w fun e w' => e = .returned (.pointer (some ⟨w.heap.size, 0, none⟩)) ∧ w'.heap[w.heap.size]? = some (.cells (dgL zeros 0 136 31 64 0 tlS).toArray 42 (0, 0)) ∧ Below w.heap.size w w' ∧ w'.heap.size = w.heap.size + 1 := by
  have hb := build_k256
  have hf := build_f256
  obtain ⟨cs, hcs⟩ : ∃ cs, (dgL zeros 0 136 31 64 0 []).toArray = cs := ⟨_, rfl⟩
  simp only [hcs] at hb hf
  clear hcs
  obtain ⟨cf, hcf⟩ : ∃ cf, (dgL zeros 0 136 31 64 0 tlS).toArray = cf := ⟨_, rfl⟩
  rw [hcf]
  simp only [hcf] at hf
  clear hcf
  go_enter Try.func15, Try.ntmps15
  go_wp2_with (first | refine wpList_run_build3 rfl 40 2 4 3 (.int .i64 136) (.int .i64 64) (.int .u8 31) rfl (.agg cs) (hb _) ?_ | refine wpList_run_build1 rfl 42 0 (.tmp 1) rfl (.agg cs) (.agg cf) rfl (hf _) ?_)
  go_ret
  exact ⟨rfl, heap_alloc_new w _, (Below.refl _ _).alloc (Nat.le_refl _) _, by simp⟩
set_option maxRecDepth 100000 in
set_option maxHeartbeats 1000000 in
theorem newK256 (w : World) : Calls Try.prog 9 #[] w fun e w' => ∃ h, e = .returned (.pointer (some ⟨h, 0, none⟩)) ∧ DG w' h 46 zeros 0 136 31 64 0 tlS ∧ w.heap.size ≤ h ∧ h < w'.heap.size ∧ Below w.heap.size w w' := by
  have hb := build_c256
  have hz : (dgL zeros 0 136 31 64 0 tlS).toArray.size = 206 := by kernel_rfl
  have X := newF256 w
  obtain ⟨cs, hcs⟩ : ∃ cs, (dgL zeros 0 136 31 64 0 tlS).toArray = cs := ⟨_, rfl⟩
  simp only [hcs] at hb hz X
  have HE := Lib.hid hcs
  have HX := Lib.hid X
  clear hcs X
  go_enter Try.func9, Try.ntmps9
  go_upto_region 1 with fail
  go_wp2_with (first
    | (go_at_call 15; refine HX.out.mono ?_; rintro e w1 ⟨rfl, D1, B1, z1⟩; have L1 := load_sk w1 w.heap.size 42 cs D1 hz; replace B1 := Lib.hid B1; replace z1 := Lib.hid z1; clear D1)
    | refine wpList_run_load1 rfl 42 (.tmp 2) rfl (.pointer (some ⟨w.heap.size, 0, none⟩)) (.agg cs) rfl L1 ?_
    | refine wpList_run_build1 rfl 46 0 (.tmp 3) rfl (.agg cs) (.agg cs) rfl (hb _) ?_)
  go_ret
  have hz1 := z1.out
  refine ⟨_, rfl, ⟨?_, rfl⟩, by omega, ?_, (B1.out).alloc (by omega) _⟩
  · have := HE.out
    rw [this]
    exact heap_alloc_new w1 _
  · simp
set_option maxHeartbeats 1000000 in
theorem shkSize_any {w : World} {h : Nat} {T : TypeId} {a : List UInt8} {n rate ds out st : Nat} {tl : List Value} (d : DG w h T a n rate ds out st tl) :
    Calls Try.prog 20 #[.pointer (some ⟨h, 0, none⟩)] w fun e w' => e = .returned (.int .i64 (out : Int)) ∧ w' = w := by
  have X := Lib.hid (digestSize_any d)
  clear d
  go_enter Try.func20, Try.ntmps20
  go_wp2_with (go_at_call 24; refine X.out.mono ?_; rintro e w1 ⟨rfl, rfl⟩)
  go_ret
  exact ⟨rfl, rfl⟩

set_option maxHeartbeats 1000000 in
theorem shkInit_any {w : World} {h : Nat} {T : TypeId} {a : List UInt8} {n rate ds out st : Nat} {tl : List Value} (d : DG w h T a n rate ds out st tl) (ho : 0 < out) :
    Calls Try.prog 17 #[.pointer (some ⟨h, 0, none⟩)] w fun e w' => e = .returned (.tuple #[]) ∧ w' = w := by
  have X := Lib.hid (shkSize_any d)
  have t1 : ((out : Int) == 0) = false := by simp; omega
  clear d
  go_enter Try.func17, Try.ntmps17
  go_wp2_with ((go_at_call 20; refine X.out.mono ?_; rintro e w1 ⟨rfl, rfl⟩))
  go_end0
  exact ⟨rfl, rfl⟩

set_option maxHeartbeats 1000000 in
theorem fshkWrite_any {w : World} {h : Nat} {T : TypeId} {a : List UInt8} {n rate ds out : Nat} {tl : List Value} (d : DG w h T a n rate ds out 0 tl) (A : Option Addr) (m c : Nat) (p : List UInt8) (hm : m = p.length) (hs : Src w h A p) (hmc : m ≤ c) (hc : c ≤ 9223372036854775807) (hn : n < rate) (hr : rate ≤ 200) :
    Calls Try.prog 18 #[.pointer (some ⟨h, 0, none⟩), .slice A m c] w fun e w' => e = .returned (.tuple #[.int .i64 (m : Int), .nilIface]) ∧ DG w' h T (absorb kf rate (a, n) p).1 (absorb kf rate (a, n) p).2 rate ds out 0 tl ∧ w.grownBy w' (some h) := by
  have X := Lib.hid (digestWrite_any d A m c p hm hs hmc hc hn hr)
  clear d hm hs
  go_enter Try.func18, Try.ntmps18
  go_wp2_with ((go_at_call 21; refine X.out.mono ?_; rintro e w1 ⟨rfl, D1, G1⟩; replace D1 := Lib.hid D1; replace G1 := Lib.hid G1))
  go_ret2
  exact ⟨rfl, D1.out, G1.out⟩

set_option maxHeartbeats 1000000 in
theorem shkWrite_any {w : World} {h : Nat} {T : TypeId} {a : List UInt8} {n rate ds out : Nat} {tl : List Value} (d : DG w h T a n rate ds out 0 tl) (ho : 0 < out) (A : Option Addr) (m c : Nat) (p : List UInt8) (hm : m = p.length) (hs : Src w h A p) (hmc : m ≤ c) (hc : c ≤ 9223372036854775807) (hn : n < rate) (hr : rate ≤ 200) :
    Calls Try.prog 11 #[.pointer (some ⟨h, 0, none⟩), .slice A m c] w fun e w' => e = .returned (.tuple #[.int .i64 (m : Int), .nilIface]) ∧ DG w' h T (absorb kf rate (a, n) p).1 (absorb kf rate (a, n) p).2 rate ds out 0 tl ∧ w.grownBy w' (some h) := by
  have X := Lib.hid (fshkWrite_any d A m c p hm hs hmc hc hn hr)
  have Y := Lib.hid (shkInit_any d ho)
  clear d hm hs
  go_enter Try.func11, Try.ntmps11
  go_wp2_with (first | (go_at_call 17; refine Y.out.mono ?_; rintro e w0 ⟨rfl, rfl⟩) | (go_at_call 18; refine X.out.mono ?_; rintro e w1 ⟨rfl, D1, G1⟩; replace D1 := Lib.hid D1; replace G1 := Lib.hid G1))
  go_ret2
  exact ⟨rfl, D1.out, G1.out⟩

set_option maxHeartbeats 1000000 in
theorem fshkRead_any {w : World} {h : Nat} {T : TypeId} {a : List UInt8} {n rate out st : Nat} {tl : List Value} (x : UInt8) (d : DG w h T a n rate x.toNat out st tl) (hst : st = 0 ∧ n < rate ∨ st = 1 ∧ n ≤ rate) (b o m c : Nat) (cs : Array Value) (Tb : TypeId)
    (hb : w.heap[b]? = some (.cells cs Tb (0, 0))) (hbh : b ≠ h) (hf : o + m ≤ cs.size) (hmc : m ≤ c) (hc : c ≤ 9223372036854775807) (h0 : 0 < rate) (hr : rate ≤ 200) :
    Calls Try.prog 19 #[.pointer (some ⟨h, 0, none⟩), .slice (some ⟨b, o, none⟩) m c] w fun e w' => e = .returned (.tuple #[.int .i64 (m : Int), .nilIface]) ∧
      DG w' h T (sqzS kf rate m (turned st a n rate x)).1 (sqzS kf rate m (turned st a n rate x)).2 rate x.toNat out 1 tl ∧
      w'.heap[b]? = some (.cells (cs.toList.take o ++ (sqz kf rate m (turned st a n rate x)).map bv ++ cs.toList.drop (o + m)).toArray Tb (0, 0)) ∧ Fr (fun k => k = h ∨ k = b) w w' := by
  have X := Lib.hid (read_any x d hst b o m c cs Tb hb hbh hf hmc hc h0 hr)
  have Y := Lib.hid (record_any w)
  clear d hst hb
  go_enter Try.func19, Try.ntmps19
  go_wp2_with (first | (go_at_call 22; refine Y.out.mono ?_; rintro e w0 ⟨rfl, rfl⟩) | (go_at_call 23; refine X.out.mono ?_; rintro e w1 ⟨rfl, D1, B1, F1⟩; replace D1 := Lib.hid D1; replace B1 := Lib.hid B1; replace F1 := Lib.hid F1))
  go_ret2
  exact ⟨rfl, D1.out, B1.out, F1.out⟩

set_option maxHeartbeats 1000000 in
theorem shkRead_any {w : World} {h : Nat} {T : TypeId} {a : List UInt8} {n rate out st : Nat} {tl : List Value} (x : UInt8) (d : DG w h T a n rate x.toNat out st tl) (ho : 0 < out) (hst : st = 0 ∧ n < rate ∨ st = 1 ∧ n ≤ rate) (b o m c : Nat) (cs : Array Value) (Tb : TypeId)
    (hb : w.heap[b]? = some (.cells cs Tb (0, 0))) (hbh : b ≠ h) (hf : o + m ≤ cs.size) (hmc : m ≤ c) (hc : c ≤ 9223372036854775807) (h0 : 0 < rate) (hr : rate ≤ 200) :
    Calls Try.prog 12 #[.pointer (some ⟨h, 0, none⟩), .slice (some ⟨b, o, none⟩) m c] w fun e w' => e = .returned (.tuple #[.int .i64 (m : Int), .nilIface]) ∧
      DG w' h T (sqzS kf rate m (turned st a n rate x)).1 (sqzS kf rate m (turned st a n rate x)).2 rate x.toNat out 1 tl ∧
      w'.heap[b]? = some (.cells (cs.toList.take o ++ (sqz kf rate m (turned st a n rate x)).map bv ++ cs.toList.drop (o + m)).toArray Tb (0, 0)) ∧ Fr (fun k => k = h ∨ k = b) w w' := by
  have X := Lib.hid (fshkRead_any x d hst b o m c cs Tb hb hbh hf hmc hc h0 hr)
  have Y := Lib.hid (shkInit_any d ho)
  clear d hst hb
  go_enter Try.func12, Try.ntmps12
  go_wp2_with (first | (go_at_call 17; refine Y.out.mono ?_; rintro e w0 ⟨rfl, rfl⟩) | (go_at_call 19; refine X.out.mono ?_; rintro e w1 ⟨rfl, D1, B1, F1⟩; replace D1 := Lib.hid D1; replace B1 := Lib.hid B1; replace F1 := Lib.hid F1))
  go_ret2
  exact ⟨rfl, D1.out, B1.out, F1.out⟩

end Go.Proofs.Ytemojkjcnkbpoaa

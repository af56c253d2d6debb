/-
  SHA-3: a new digest, of each of the four sizes, and newHash at the kinds 7 to 10. No condition.
-/
import Derived.Test.YtemojkjcnkbpoaaGreatShaV
namespace Go.Proofs.YtemojkjcnkbpoaaGreat
open Go.RowKit
set_option linter.unusedVariables false

theorem wpList_run_build3 {P : Program} {w : World} {ops : Array Oper} {rest : List Oper} {o : Oper} {a : Act} {Q : Exit → Act → World → Prop} (hgd : o.guard = none) (t : TypeId) (i j k : Nat) (x y z : Value) (ho : o.op = .build t #[(i, .const x), (j, .const y), (k, .const z)]) (v : Value)
    (hrun : (Instr.build t #[(i, x), (j, y), (k, z)]).run P w = .ok v w) (h : wpList P ops Q rest (a.put o.dst v) w) : wpList P ops Q (o :: rest) a w := by
  refine wpList_plain hgd fun _ hK => ?_
  unfold Oper.wp execOp
  simp only [ho, List.map_toArray, List.map_cons, List.map_nil, Act.eval, Sem.run_bind, hrun, Result.andThen_ok, Sem.run_pure]
  exact hK _ _ h
theorem wpList_run_build1 {P : Program} {w : World} {ops : Array Oper} {rest : List Oper} {o : Oper} {a : Act} {Q : Exit → Act → World → Prop} (hgd : o.guard = none) (t : TypeId) (i : Nat) (x : Operand) (ho : o.op = .build t #[(i, x)]) (v0 v : Value) (hx : a.eval x = v0)
    (hrun : (Instr.build t #[(i, v0)]).run P w = .ok v w) (h : wpList P ops Q rest (a.put o.dst v) w) : wpList P ops Q (o :: rest) a w := by
  refine wpList_plain hgd fun _ hK => ?_
  unfold Oper.wp execOp
  simp only [ho, List.map_toArray, List.map_cons, List.map_nil, hx, Sem.run_bind, hrun, Result.andThen_ok, Sem.run_pure]
  exact hK _ _ h
theorem wpList_run_load1 {P : Program} {w : World} {ops : Array Oper} {rest : List Oper} {o : Oper} {a : Act} {Q : Exit → Act → World → Prop} (hgd : o.guard = none) (t : TypeId) (x : Operand) (ho : o.op = .load t x) (v0 v : Value) (hx : a.eval x = v0)
    (hrun : (Instr.loadAt t v0).run P w = .ok v w) (h : wpList P ops Q rest (a.put o.dst v) w) : wpList P ops Q (o :: rest) a w := by
  refine wpList_plain hgd fun _ hK => ?_
  unfold Oper.wp execOp
  simp only [ho, hx, Sem.run_bind, hrun, Result.andThen_ok, Sem.run_pure]
  exact hK _ _ h

theorem load_dg (W : World) (g : Nat) (T : TypeId) (cs : Array Value) (hg : W.heap[g]? = some (.cells cs T (0, 0))) (hz : cs.size = 205) : (Instr.loadAt 91 (.pointer (some ⟨g, 0, none⟩))).run Tryz.prog W = .ok (.agg cs) W := by
  unfold Instr.loadAt
  simp only [Instr.sureAddr, Sem.run_bind, Sem.run_pure, Result.andThen_ok]
  exact run_loadVar_row W g T _ cs (0, 0) _ hg Tryz.underlying91 rfl (by rw [hz]; kernel_rfl)

def zeros : List UInt8 := List.replicate 200 0

set_option maxRecDepth 100000 in
theorem build_d224 (W : World) : (Instr.build 91 #[(2, .int .i64 144), (4, .int .i64 28), (3, .int .u8 6)]).run Tryz.prog W = .ok (.agg (dgL zeros 0 144 6 28 0 []).toArray) W := by kernel_rfl
set_option maxRecDepth 100000 in
theorem build_s224 (W : World) : (Instr.build 95 #[(0, .agg (dgL zeros 0 144 6 28 0 []).toArray)]).run Tryz.prog W = .ok (.agg (dgL zeros 0 144 6 28 0 []).toArray) W := by kernel_rfl
set_option maxRecDepth 100000 in
set_option maxHeartbeats 1000000 in
theorem newD224 (w : World) : Calls Tryz.prog 38 #[] w fun e w' => e = .returned (.pointer (some ⟨w.heap.size, 0, none⟩)) ∧ w'.heap[w.heap.size]? = some (.cells (dgL zeros 0 144 6 28 0 []).toArray 91 (0, 0)) ∧ Below w.heap.size w w' ∧ w'.heap.size = w.heap.size + 1 := by
  have hb := build_d224
  obtain ⟨cs, hcs⟩ : ∃ cs, (dgL zeros 0 144 6 28 0 []).toArray = cs := ⟨_, rfl⟩
  rw [hcs]
  simp only [hcs] at hb
  clear hcs
  go_enter Tryz.func38, Tryz.ntmps38
  go_wp2_with (refine wpList_run_build3 rfl 91 2 4 3 (.int .i64 144) (.int .i64 28) (.int .u8 6) rfl (.agg cs) (hb _) ?_)
  go_ret
  exact ⟨rfl, heap_alloc_new w _, (Below.refl _ _).alloc (Nat.le_refl _) _, by simp⟩
set_option maxRecDepth 100000 in
set_option maxHeartbeats 1000000 in
theorem newS224 (w : World) : Calls Tryz.prog 30 #[] w fun e w' => ∃ h, e = .returned (.pointer (some ⟨h, 0, none⟩)) ∧ DG w' h 95 zeros 0 144 6 28 0 [] ∧ w.heap.size ≤ h ∧ h < w'.heap.size ∧ Below w.heap.size w w' := by
  have hb := build_s224
  have hz : (dgL zeros 0 144 6 28 0 []).toArray.size = 205 := by kernel_rfl
  have X := newD224 w
  have HL : Hid (∀ W : World, W.heap[W.heap.size]? = some (.cells (dgL zeros 0 144 6 28 0 []).toArray 95 (0, 0)) → True) := fun _ _ => trivial
  obtain ⟨cs, hcs⟩ : ∃ cs, (dgL zeros 0 144 6 28 0 []).toArray = cs := ⟨_, rfl⟩
  simp only [hcs] at hb hz X
  have HE := Lib.hid hcs
  have HX := Lib.hid X
  clear hcs X HL
  go_enter Tryz.func30, Tryz.ntmps30
  go_upto_region 1 with fail
  go_wp2_with (first
    | (go_at_call 38; refine HX.out.mono ?_; rintro e w1 ⟨rfl, D1, B1, z1⟩; have L1 := load_dg w1 w.heap.size 91 cs D1 hz; replace B1 := Lib.hid B1; replace z1 := Lib.hid z1; clear D1)
    | refine wpList_run_load1 rfl 91 (.tmp 2) rfl (.pointer (some ⟨w.heap.size, 0, none⟩)) (.agg cs) rfl L1 ?_
    | refine wpList_run_build1 rfl 95 0 (.tmp 3) rfl (.agg cs) (.agg cs) rfl (hb _) ?_)
  go_ret
  have hz1 := z1.out
  refine ⟨_, rfl, ⟨?_, rfl⟩, by omega, ?_, (B1.out).alloc (by omega) _⟩
  · have := HE.out
    rw [this]
    exact heap_alloc_new w1 _
  · simp

set_option maxRecDepth 100000 in
theorem build_d256 (W : World) : (Instr.build 91 #[(2, .int .i64 136), (4, .int .i64 32), (3, .int .u8 6)]).run Tryz.prog W = .ok (.agg (dgL zeros 0 136 6 32 0 []).toArray) W := by kernel_rfl
set_option maxRecDepth 100000 in
theorem build_s256 (W : World) : (Instr.build 95 #[(0, .agg (dgL zeros 0 136 6 32 0 []).toArray)]).run Tryz.prog W = .ok (.agg (dgL zeros 0 136 6 32 0 []).toArray) W := by kernel_rfl
set_option maxRecDepth 100000 in
set_option maxHeartbeats 1000000 in
theorem newD256 (w : World) : Calls Tryz.prog 39 #[] w fun e w' => e = .returned (.pointer (some ⟨w.heap.size, 0, none⟩)) ∧ w'.heap[w.heap.size]? = some (.cells (dgL zeros 0 136 6 32 0 []).toArray 91 (0, 0)) ∧ Below w.heap.size w w' ∧ w'.heap.size = w.heap.size + 1 := by
  have hb := build_d256
  obtain ⟨cs, hcs⟩ : ∃ cs, (dgL zeros 0 136 6 32 0 []).toArray = cs := ⟨_, rfl⟩
  rw [hcs]
  simp only [hcs] at hb
  clear hcs
  go_enter Tryz.func39, Tryz.ntmps39
  go_wp2_with (refine wpList_run_build3 rfl 91 2 4 3 (.int .i64 136) (.int .i64 32) (.int .u8 6) rfl (.agg cs) (hb _) ?_)
  go_ret
  exact ⟨rfl, heap_alloc_new w _, (Below.refl _ _).alloc (Nat.le_refl _) _, by simp⟩
set_option maxRecDepth 100000 in
set_option maxHeartbeats 1000000 in
theorem newS256 (w : World) : Calls Tryz.prog 31 #[] w fun e w' => ∃ h, e = .returned (.pointer (some ⟨h, 0, none⟩)) ∧ DG w' h 95 zeros 0 136 6 32 0 [] ∧ w.heap.size ≤ h ∧ h < w'.heap.size ∧ Below w.heap.size w w' := by
  have hb := build_s256
  have hz : (dgL zeros 0 136 6 32 0 []).toArray.size = 205 := by kernel_rfl
  have X := newD256 w
  have HL : Hid (∀ W : World, W.heap[W.heap.size]? = some (.cells (dgL zeros 0 136 6 32 0 []).toArray 95 (0, 0)) → True) := fun _ _ => trivial
  obtain ⟨cs, hcs⟩ : ∃ cs, (dgL zeros 0 136 6 32 0 []).toArray = cs := ⟨_, rfl⟩
  simp only [hcs] at hb hz X
  have HE := Lib.hid hcs
  have HX := Lib.hid X
  clear hcs X HL
  go_enter Tryz.func31, Tryz.ntmps31
  go_upto_region 1 with fail
  go_wp2_with (first
    | (go_at_call 39; refine HX.out.mono ?_; rintro e w1 ⟨rfl, D1, B1, z1⟩; have L1 := load_dg w1 w.heap.size 91 cs D1 hz; replace B1 := Lib.hid B1; replace z1 := Lib.hid z1; clear D1)
    | refine wpList_run_load1 rfl 91 (.tmp 2) rfl (.pointer (some ⟨w.heap.size, 0, none⟩)) (.agg cs) rfl L1 ?_
    | refine wpList_run_build1 rfl 95 0 (.tmp 3) rfl (.agg cs) (.agg cs) rfl (hb _) ?_)
  go_ret
  have hz1 := z1.out
  refine ⟨_, rfl, ⟨?_, rfl⟩, by omega, ?_, (B1.out).alloc (by omega) _⟩
  · have := HE.out
    rw [this]
    exact heap_alloc_new w1 _
  · simp

set_option maxRecDepth 100000 in
theorem build_d384 (W : World) : (Instr.build 91 #[(2, .int .i64 104), (4, .int .i64 48), (3, .int .u8 6)]).run Tryz.prog W = .ok (.agg (dgL zeros 0 104 6 48 0 []).toArray) W := by kernel_rfl
set_option maxRecDepth 100000 in
theorem build_s384 (W : World) : (Instr.build 95 #[(0, .agg (dgL zeros 0 104 6 48 0 []).toArray)]).run Tryz.prog W = .ok (.agg (dgL zeros 0 104 6 48 0 []).toArray) W := by kernel_rfl
set_option maxRecDepth 100000 in
set_option maxHeartbeats 1000000 in
theorem newD384 (w : World) : Calls Tryz.prog 40 #[] w fun e w' => e = .returned (.pointer (some ⟨w.heap.size, 0, none⟩)) ∧ w'.heap[w.heap.size]? = some (.cells (dgL zeros 0 104 6 48 0 []).toArray 91 (0, 0)) ∧ Below w.heap.size w w' ∧ w'.heap.size = w.heap.size + 1 := by
  have hb := build_d384
  obtain ⟨cs, hcs⟩ : ∃ cs, (dgL zeros 0 104 6 48 0 []).toArray = cs := ⟨_, rfl⟩
  rw [hcs]
  simp only [hcs] at hb
  clear hcs
  go_enter Tryz.func40, Tryz.ntmps40
  go_wp2_with (refine wpList_run_build3 rfl 91 2 4 3 (.int .i64 104) (.int .i64 48) (.int .u8 6) rfl (.agg cs) (hb _) ?_)
  go_ret
  exact ⟨rfl, heap_alloc_new w _, (Below.refl _ _).alloc (Nat.le_refl _) _, by simp⟩
set_option maxRecDepth 100000 in
set_option maxHeartbeats 1000000 in
theorem newS384 (w : World) : Calls Tryz.prog 32 #[] w fun e w' => ∃ h, e = .returned (.pointer (some ⟨h, 0, none⟩)) ∧ DG w' h 95 zeros 0 104 6 48 0 [] ∧ w.heap.size ≤ h ∧ h < w'.heap.size ∧ Below w.heap.size w w' := by
  have hb := build_s384
  have hz : (dgL zeros 0 104 6 48 0 []).toArray.size = 205 := by kernel_rfl
  have X := newD384 w
  have HL : Hid (∀ W : World, W.heap[W.heap.size]? = some (.cells (dgL zeros 0 104 6 48 0 []).toArray 95 (0, 0)) → True) := fun _ _ => trivial
  obtain ⟨cs, hcs⟩ : ∃ cs, (dgL zeros 0 104 6 48 0 []).toArray = cs := ⟨_, rfl⟩
  simp only [hcs] at hb hz X
  have HE := Lib.hid hcs
  have HX := Lib.hid X
  clear hcs X HL
  go_enter Tryz.func32, Tryz.ntmps32
  go_upto_region 1 with fail
  go_wp2_with (first
    | (go_at_call 40; refine HX.out.mono ?_; rintro e w1 ⟨rfl, D1, B1, z1⟩; have L1 := load_dg w1 w.heap.size 91 cs D1 hz; replace B1 := Lib.hid B1; replace z1 := Lib.hid z1; clear D1)
    | refine wpList_run_load1 rfl 91 (.tmp 2) rfl (.pointer (some ⟨w.heap.size, 0, none⟩)) (.agg cs) rfl L1 ?_
    | refine wpList_run_build1 rfl 95 0 (.tmp 3) rfl (.agg cs) (.agg cs) rfl (hb _) ?_)
  go_ret
  have hz1 := z1.out
  refine ⟨_, rfl, ⟨?_, rfl⟩, by omega, ?_, (B1.out).alloc (by omega) _⟩
  · have := HE.out
    rw [this]
    exact heap_alloc_new w1 _
  · simp

set_option maxRecDepth 100000 in
theorem build_d512 (W : World) : (Instr.build 91 #[(2, .int .i64 72), (4, .int .i64 64), (3, .int .u8 6)]).run Tryz.prog W = .ok (.agg (dgL zeros 0 72 6 64 0 []).toArray) W := by kernel_rfl
set_option maxRecDepth 100000 in
theorem build_s512 (W : World) : (Instr.build 95 #[(0, .agg (dgL zeros 0 72 6 64 0 []).toArray)]).run Tryz.prog W = .ok (.agg (dgL zeros 0 72 6 64 0 []).toArray) W := by kernel_rfl
set_option maxRecDepth 100000 in
set_option maxHeartbeats 1000000 in
theorem newD512 (w : World) : Calls Tryz.prog 41 #[] w fun e w' => e = .returned (.pointer (some ⟨w.heap.size, 0, none⟩)) ∧ w'.heap[w.heap.size]? = some (.cells (dgL zeros 0 72 6 64 0 []).toArray 91 (0, 0)) ∧ Below w.heap.size w w' ∧ w'.heap.size = w.heap.size + 1 := by
  have hb := build_d512
  obtain ⟨cs, hcs⟩ : ∃ cs, (dgL zeros 0 72 6 64 0 []).toArray = cs := ⟨_, rfl⟩
  rw [hcs]
  simp only [hcs] at hb
  clear hcs
  go_enter Tryz.func41, Tryz.ntmps41
  go_wp2_with (refine wpList_run_build3 rfl 91 2 4 3 (.int .i64 72) (.int .i64 64) (.int .u8 6) rfl (.agg cs) (hb _) ?_)
  go_ret
  exact ⟨rfl, heap_alloc_new w _, (Below.refl _ _).alloc (Nat.le_refl _) _, by simp⟩
set_option maxRecDepth 100000 in
set_option maxHeartbeats 1000000 in
theorem newS512 (w : World) : Calls Tryz.prog 33 #[] w fun e w' => ∃ h, e = .returned (.pointer (some ⟨h, 0, none⟩)) ∧ DG w' h 95 zeros 0 72 6 64 0 [] ∧ w.heap.size ≤ h ∧ h < w'.heap.size ∧ Below w.heap.size w w' := by
  have hb := build_s512
  have hz : (dgL zeros 0 72 6 64 0 []).toArray.size = 205 := by kernel_rfl
  have X := newD512 w
  have HL : Hid (∀ W : World, W.heap[W.heap.size]? = some (.cells (dgL zeros 0 72 6 64 0 []).toArray 95 (0, 0)) → True) := fun _ _ => trivial
  obtain ⟨cs, hcs⟩ : ∃ cs, (dgL zeros 0 72 6 64 0 []).toArray = cs := ⟨_, rfl⟩
  simp only [hcs] at hb hz X
  have HE := Lib.hid hcs
  have HX := Lib.hid X
  clear hcs X HL
  go_enter Tryz.func33, Tryz.ntmps33
  go_upto_region 1 with fail
  go_wp2_with (first
    | (go_at_call 41; refine HX.out.mono ?_; rintro e w1 ⟨rfl, D1, B1, z1⟩; have L1 := load_dg w1 w.heap.size 91 cs D1 hz; replace B1 := Lib.hid B1; replace z1 := Lib.hid z1; clear D1)
    | refine wpList_run_load1 rfl 91 (.tmp 2) rfl (.pointer (some ⟨w.heap.size, 0, none⟩)) (.agg cs) rfl L1 ?_
    | refine wpList_run_build1 rfl 95 0 (.tmp 3) rfl (.agg cs) (.agg cs) rfl (hb _) ?_)
  go_ret
  have hz1 := z1.out
  refine ⟨_, rfl, ⟨?_, rfl⟩, by omega, ?_, (B1.out).alloc (by omega) _⟩
  · have := HE.out
    rw [this]
    exact heap_alloc_new w1 _
  · simp

end Go.Proofs.YtemojkjcnkbpoaaGreat

/-
  encoding/ascii85.NewEncoder: a new encoder. No condition.
-/
import Derived.Test.YtmddbfcghddacaaEncN
namespace Go.Proofs.Ytmddbfcghddacaa
open Go.RowKit
set_option linter.unusedVariables false

theorem wpList_run_build1 {P : Program} {w : World} {ops : Array Oper} {rest : List Oper} {o : Oper} {a : Act} {Q : Exit → Act → World → Prop} (hgd : o.guard = none) (t : TypeId) (i : Nat) (x : Operand) (ho : o.op = .build t #[(i, x)]) (v0 v : Value) (hx : a.eval x = v0)
    (hrun : (Instr.build t #[(i, v0)]).run P w = .ok v w) (h : wpList P ops Q rest (a.put o.dst v) w) : wpList P ops Q (o :: rest) a w := by
  refine wpList_plain hgd fun _ hK => ?_
  unfold Oper.wp execOp
  simp only [ho, List.map_toArray, List.map_cons, List.map_nil, hx, Sem.run_bind, hrun, Result.andThen_ok, Sem.run_pure]
  exact hK _ _ h

set_option maxRecDepth 100000 in
theorem new_encoder (tw : TypeId) (pw : Addr) (w : World) :
    Calls Try.prog 16 #[.iface tw (.pointer (some pw))] w fun e w' => e = .returned (.iface 52 (.pointer (some ⟨w.heap.size, 0, none⟩))) ∧ EncB w' w.heap.size (.iface tw (.pointer (some pw))) [] ∧ Below w.heap.size w w' ∧ w'.heap.size = w.heap.size + 1 := by
  have hb := fun W => build_enc tw pw W
  have hk := encCells_ok (.iface tw (.pointer (some pw)))
  obtain ⟨cs, hcs⟩ : ∃ cs, cs = encCells (.iface tw (.pointer (some pw))) := ⟨_, rfl⟩
  rw [← hcs] at hk
  have hb' : ∀ W, (Instr.build 56 #[(1, .iface tw (.pointer (some pw)))]).run Try.prog W = .ok (.agg cs) W := by rw [hcs]; exact hb
  clear hb hcs
  go_enter Try.func16, Try.ntmps16
  go_wp2_with (refine wpList_run_build1 rfl 56 1 (.tmp 3) rfl (.iface tw (.pointer (some pw))) (.agg cs) rfl (hb' _) ?_)
  go_ret
  exact ⟨rfl, ⟨cs, heap_alloc_new w _, hk⟩, (Below.refl _ _).alloc (Nat.le_refl _) _, by simp⟩

end Go.Proofs.Ytmddbfcghddacaa

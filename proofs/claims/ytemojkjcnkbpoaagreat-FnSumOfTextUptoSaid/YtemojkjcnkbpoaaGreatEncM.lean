/-
  encoding/ascii85.NewEncoder: a new encoder. No condition.
-/
import Derived.Test.YtemojkjcnkbpoaaGreatEncN
namespace Go.Proofs.YtemojkjcnkbpoaaGreat
open Go.RowKit
set_option linter.unusedVariables false

set_option maxRecDepth 100000 in
theorem new_encoder (tw : TypeId) (pw : Addr) (w : World) :
    Calls Tryz.prog 34 #[.iface tw (.pointer (some pw))] w fun e w' => e = .returned (.iface 96 (.pointer (some ⟨w.heap.size, 0, none⟩))) ∧ EncB w' w.heap.size (.iface tw (.pointer (some pw))) [] ∧ Below w.heap.size w w' ∧ w'.heap.size = w.heap.size + 1 := by
  have hb := fun W => build_enc tw pw W
  have hk := encCells_ok (.iface tw (.pointer (some pw)))
  obtain ⟨cs, hcs⟩ : ∃ cs, cs = encCells (.iface tw (.pointer (some pw))) := ⟨_, rfl⟩
  rw [← hcs] at hk
  have hb' : ∀ W, (Instr.build 100 #[(1, .iface tw (.pointer (some pw)))]).run Tryz.prog W = .ok (.agg cs) W := by rw [hcs]; exact hb
  clear hb hcs
  go_enter Tryz.func34, Tryz.ntmps34
  go_wp2_with (refine wpList_run_build1 rfl 100 1 (.tmp 3) rfl (.iface tw (.pointer (some pw))) (.agg cs) rfl (hb' _) ?_)
  go_ret
  exact ⟨rfl, ⟨cs, heap_alloc_new w _, hk⟩, (Below.refl _ _).alloc (Nat.le_refl _) _, by simp⟩

end Go.Proofs.YtemojkjcnkbpoaaGreat

/-
  The cells of a new encoder. No condition.
-/
import Derived.Test.YtemojkjcnkbpoaaGreatEncZ
namespace Go.Proofs.YtemojkjcnkbpoaaGreat
open Go.RowKit
set_option linter.unusedVariables false

def encCells (wv : Value) : Array Value := #[.nilIface, wv] ++ Array.replicate 4 (.int .u8 0) ++ #[.int .i64 0] ++ Array.replicate 1024 (.int .u8 0)

set_option maxRecDepth 100000 in
theorem build_enc (tw : TypeId) (pw : Addr) (W : World) : (Instr.build 100 #[(1, .iface tw (.pointer (some pw)))]).run Tryz.prog W = .ok (.agg (encCells (.iface tw (.pointer (some pw))))) W := by kernel_rfl

theorem encCells_ok (wv : Value) : EncCs wv [] (encCells wv) := by
  have key : ∀ i, (encCells wv)[i]? = if i = 0 then some .nilIface else if i = 1 then some wv else if i < 6 then some (.int .u8 0) else if i = 6 then some (.int .i64 0) else if i < 1031 then some (.int .u8 0) else none := by
    intro i
    unfold encCells
    rw [Array.append_assoc, Array.append_assoc, Array.getElem?_append, Array.getElem?_append, Array.getElem?_append, Array.getElem?_replicate, Array.getElem?_replicate]
    simp only [List.size_toArray, List.length_cons, List.length_nil, Array.size_replicate]
    by_cases h0 : i = 0
    · subst h0; simp
    by_cases h1 : i = 1
    · subst h1; simp
    rw [if_neg (by omega), if_neg h0, if_neg h1]
    by_cases h2 : i < 6
    · rw [if_pos (by omega), if_pos (by omega), if_pos h2]
    rw [if_neg (by omega), if_neg h2]
    by_cases h3 : i = 6
    · subst h3; simp
    rw [if_neg (by omega), if_neg h3]
    by_cases h4 : i < 1031
    · rw [if_pos (by omega), if_pos h4]
    · rw [if_neg (by omega), if_neg h4]
  refine ⟨?_, by rw [key]; rfl, by rw [key]; rfl, by rw [key]; rfl, by simp, by simp, fun i hi => ⟨0, ?_⟩, fun i hi => ⟨0, ?_⟩⟩
  · simp [encCells]
  · rw [key, if_neg (by omega), if_neg (by omega), if_pos (by omega)]
  · rw [key, if_neg (by omega), if_neg (by omega), if_neg (by omega), if_neg (by omega), if_pos (by omega)]

end Go.Proofs.YtemojkjcnkbpoaaGreat

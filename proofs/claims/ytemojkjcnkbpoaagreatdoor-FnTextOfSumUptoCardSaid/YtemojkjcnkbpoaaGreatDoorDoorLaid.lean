/-
  What the listed variable errors.errorType holds, as a cell; a world that meets the list, for the witness. No condition. (After the kit's worked example of errors.As.)
-/
import Derived.Test.YtemojkjcnkbpoaaGreatDoorCards
import Derived.Test.YtemojkjcnkbpoaaGreatDoorTie
import Derived.RowKit
import Derived.RowKitTokens
import Derived.LaidLaws
import Derived.LaidHandle
import Derived.Deep.DeepHandedRow
namespace Go.Proofs.YtemojkjcnkbpoaaGreatDoor
open Go.ChangeShapes Go.WideShapes Go.RowKit

theorem door_et : Tryz.prog.globalNamed "errors.errorType" = some 0 := by kernel_rfl
/-- the name of the dynamic type that the list tells -/
def rtName : String := match (Rows.laid_errors_errorType (H := Unit)) with
  | .iface s _ => s
  | _ => ""
theorem door_rt : (Tryz.prog.cutTypes.find? (·.1 == rtName)).map (·.2) = some 75 := by kernel_rfl
theorem door_size : Tryz.prog.types.size = 155 := by kernel_rfl
theorem door_one : ((List.range 155).filter fun t => Tryz.prog.rowNamed t [101, 114, 114, 111, 114]) = [39] := by kernel_rfl

theorem door_laid {W : World} (h : laidMetH Tryz.prog [("errors.errorType", Rows.laid_errors_errorType)] W) : W.cell? ⟨0, 0, none⟩ = some (.iface 75 (.agg #[.pointer (some ⟨1, 39, none⟩)])) := by
  have h' : laidMet Tryz.prog [] W ∧ handlesMet Tryz.prog [("errors.errorType", Rows.laid_errors_errorType)] W := h
  obtain ⟨name, u, ty, e1, e2, e3, e4, e5⟩ := h'.2 _ (List.mem_singleton.2 rfl)
  have en : name = [101, 114, 114, 111, 114] := (Option.some.inj e1).symm
  subst en
  obtain rfl := Option.some.inj (door_rt.symm.trans e2)
  have hm : ty ∈ (List.range 155).filter fun t => Tryz.prog.rowNamed t [101, 114, 114, 111, 114] := List.mem_filter.2 ⟨List.mem_range.2 (by rw [← door_size]; exact e3), e4⟩
  rw [door_one] at hm
  obtain rfl := List.mem_singleton.1 hm
  have hh : typeHandle Tryz.prog 39 = .pointer (some ⟨1, 39, none⟩) := by kernel_rfl
  rw [hh] at e5
  simpa using World.var?_cell door_et e5 0

noncomputable def laidWorld (os : Os) : World :=
  let w0 := World.holding Tryz.prog os ⟨#[], #[], []⟩
  { w0 with heap := w0.heap.modify 0 fun
      | .cells _ t frozen => .cells #[.iface 75 (.agg #[.pointer (some ⟨1, 39, none⟩)])] t frozen
      | o => o }
theorem laidWorld_met (os : Os) (args : Array Value) : laidMetH Tryz.prog [("errors.errorType", Rows.laid_errors_errorType)] ((laidWorld os).forCall (fun _ _ => 0) ⟨#[], args, []⟩).memory :=
  laidMetH_of_parts (laidMet_nil _ _) (by kernel_rfl)

end Go.Proofs.YtemojkjcnkbpoaaGreatDoor

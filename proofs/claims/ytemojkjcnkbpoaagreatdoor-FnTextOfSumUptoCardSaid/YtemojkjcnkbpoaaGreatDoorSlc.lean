/-
  'data[:k]', 'data[k:]' and 'data[0:k]' on bytes, one equation each, whatever the capacity. No condition.
-/
import Derived.Test.YtemojkjcnkbpoaaGreatDoorBase
namespace Go.Proofs.YtemojkjcnkbpoaaGreatDoor
open Go.RowKit
set_option linter.unusedVariables false

/-- 'data[:k]' and 'data[k:]' as one equation each, whatever the capacity -/
theorem slice_hi (A : Option Addr) (n c k : Nat) (hk : k ≤ c) (W : World) : (Instr.sliceAt 22 (.slice A n c) none (some (.int .i64 (k : Int))) none).run Tryz.prog W = .ok (.slice A k c) W := by
  have e : (Instr.sliceAt 22 (.slice A n c) none (some (.int .i64 (k : Int))) none).run Tryz.prog W = (Instr.slice 22 (.slice A n c) none (some (.int .i64 (k : Int))) none).run Tryz.prog W := by
    simp [Instr.sliceAt, run_underlying Tryz.underlying22]
  have hsz : ∀ W, (sizeOf 5).run Tryz.prog W = .ok 1 W := fun _ => by kernel_rfl
  rw [e]
  have hmap : A.map (fun x : Addr => x.add 0) = A := by cases A <;> simp [Addr.add]
  simp [Instr.slice, run_underlying Tryz.underlying22, Instr.sliceBounds, Instr.sliceBound, hsz, hk, hmap, asIntOf, Result.andThen]
theorem slice_lo (A : Option Addr) (n c k : Nat) (hk : k ≤ n) (hn : n ≤ c) : ∃ A2 : Option Addr, (∀ b off, A = some ⟨b, off, none⟩ → k < n → A2 = some ⟨b, off + k, none⟩) ∧ ∀ W : World, (Instr.sliceAt 22 (.slice A n c) (some (.int .i64 (k : Int))) none none).run Tryz.prog W = .ok (.slice A2 (n - k) (c - k)) W := by
  refine ⟨if c = k then A else A.map (·.add k), fun b off e h => ?_, fun W => ?_⟩
  · rw [if_neg (by omega), e, Option.map_some, addr_add]
  · have e : (Instr.sliceAt 22 (.slice A n c) (some (.int .i64 (k : Int))) none none).run Tryz.prog W = (Instr.slice 22 (.slice A n c) (some (.int .i64 (k : Int))) none none).run Tryz.prog W := by
      simp [Instr.sliceAt, run_underlying Tryz.underlying22]
    have hsz : ∀ W, (sizeOf 5).run Tryz.prog W = .ok 1 W := fun _ => by kernel_rfl
    rw [e]
    simp [Instr.slice, run_underlying Tryz.underlying22, Instr.sliceBounds, Instr.sliceBound, hsz, hk, asIntOf, Result.andThen]

theorem slice_0hi (A : Option Addr) (n c k : Nat) (hk : k ≤ c) (W : World) : (Instr.sliceAt 22 (.slice A n c) (some (.int .i64 0)) (some (.int .i64 (k : Int))) none).run Tryz.prog W = .ok (.slice A k c) W := by
  have e : (Instr.sliceAt 22 (.slice A n c) (some (.int .i64 0)) (some (.int .i64 (k : Int))) none).run Tryz.prog W = (Instr.slice 22 (.slice A n c) (some (.int .i64 0)) (some (.int .i64 (k : Int))) none).run Tryz.prog W := by
    simp [Instr.sliceAt, run_underlying Tryz.underlying22]
  have hsz : ∀ W, (sizeOf 5).run Tryz.prog W = .ok 1 W := fun _ => by kernel_rfl
  rw [e]
  have hmap : A.map (fun x : Addr => x.add 0) = A := by cases A <;> simp [Addr.add]
  simp [Instr.slice, run_underlying Tryz.underlying22, Instr.sliceBounds, Instr.sliceBound, hsz, hk, hmap, asIntOf, Result.andThen]

end Go.Proofs.YtemojkjcnkbpoaaGreatDoor

/-
  laws.group returns four bytes as a number, the first one the most significant. Condition: the slice has four bytes.
-/
import Derived.Test.YtemojkjcnkbpoaaGreatDoorAsc
import Derived.Test.YtemojkjcnkbpoaaGreatDoorSame
import Derived.Lib.EndianBits
namespace Go.Proofs.YtemojkjcnkbpoaaGreatDoor
open Go.RowKit

theorem wraps_i64' (n : Int) (h₀ : 0 ≤ n) (h₁ : n < 2 ^ 63) : IntKind.i64.wrap n = n := by rw [IntKind.wrap_i64]; omega

theorem i64_or (i : Nat) (x y : Int) (hx₀ : 0 ≤ x) (hx : x % 2 ^ i = 0) (hx₁ : x < 2 ^ 63) (hy₀ : 0 ≤ y) (hy : y < 2 ^ i) (hy₁ : y < 2 ^ 63) : bits .or .i64 x y = x + y :=
  bits_join .i64 63 (by decide) wraps_i64' i x y hx₀ hx hx₁ hy₀ hy hy₁

theorem group_or (x0 x1 x2 x3 : UInt8) : bits .or .i64 (bits .or .i64 (bits .or .i64 ((x0.toNat : Int) * 16777216) ((x1.toNat : Int) * 65536)) ((x2.toNat : Int) * 256)) (x3.toNat : Int) = (Asc.be4 x0 x1 x2 x3 : Int) := by
  have hx0 := x0.toNat_lt
  have hx1 := x1.toNat_lt
  have hx2 := x2.toNat_lt
  have hx3 := x3.toNat_lt
  rw [i64_or 24 ((x0.toNat : Int) * 16777216) ((x1.toNat : Int) * 65536) (by omega) (by omega) (by omega) (by omega) (by omega) (by omega),
    i64_or 16 ((x0.toNat : Int) * 16777216 + (x1.toNat : Int) * 65536) ((x2.toNat : Int) * 256) (by omega) (by omega) (by omega) (by omega) (by omega) (by omega),
    i64_or 8 ((x0.toNat : Int) * 16777216 + (x1.toNat : Int) * 65536 + (x2.toNat : Int) * 256) (x3.toNat : Int) (by omega) (by omega) (by omega) (by omega) (by omega) (by omega)]
  unfold Asc.be4
  omega

set_option maxHeartbeats 1000000 in
theorem group_any (b o m c : Nat) (x0 x1 x2 x3 : UInt8) (w : World) (hm : 4 ≤ m) (h0 : w.cell? ⟨b, o, none⟩ = some (.int .u8 (x0.toNat : Int))) (h1 : w.cell? ⟨b, o + 1, none⟩ = some (.int .u8 (x1.toNat : Int)))
    (h2 : w.cell? ⟨b, o + 2, none⟩ = some (.int .u8 (x2.toNat : Int))) (h3 : w.cell? ⟨b, o + 3, none⟩ = some (.int .u8 (x3.toNat : Int))) :
    Calls Tryz.prog 7 #[.slice (some ⟨b, o, none⟩) m c] w fun e w' => e = .returned (.int .i64 (Asc.be4 x0 x1 x2 x3 : Int)) ∧ ∃ k, w' = w.drewN k := by
  have hx0 := x0.toNat_lt
  have hx1 := x1.toNat_lt
  have hx2 := x2.toNat_lt
  have hx3 := x3.toNat_lt
  have l0 : (0 : Int) < (m : Int) := by omega
  have l1 : (1 : Int) < (m : Int) := by omega
  have l2 : (2 : Int) < (m : Int) := by omega
  have l3 : (3 : Int) < (m : Int) := by omega
  go_enter Tryz.func7, Tryz.ntmps7
  go_wp2
  go_quiet (fail)
  go_wp2
  go_ret
  refine ⟨?_, _, rfl⟩
  show Ending.returned (.int .i64 (bits .or .i64 (bits .or .i64 (bits .or .i64 ((x0.toNat : Int) * 16777216) ((x1.toNat : Int) * 65536)) ((x2.toNat : Int) * 256)) (x3.toNat : Int))) = _
  rw [group_or]

end Go.Proofs.YtemojkjcnkbpoaaGreatDoor

/-
  Plain: both sums of Adler-32, as sums that are not reduced, and how they go together. No program here. No condition.
-/
import Derived.Test.YtemojkjcnkbpoaaGreatDoorBase
namespace Go.Proofs.YtemojkjcnkbpoaaGreatDoor.Adl

/-- the first sum of r from a on -/
def adA (a : Nat) : List UInt8 → Nat
  | [] => a
  | x :: r => adA (a + x.toNat) r
/-- the second sum of r from a and b on -/
def adB (a b : Nat) : List UInt8 → Nat
  | [] => b
  | x :: r => adB (a + x.toNat) (b + (a + x.toNat)) r
/-- the bytes' sum -/
def sm : List UInt8 → Nat
  | [] => 0
  | x :: r => x.toNat + sm r
/-- the bytes' sum, each weighted by its place from the end -/
def ws : List UInt8 → Nat
  | [] => 0
  | x :: r => (r.length + 1) * x.toNat + ws r

theorem adA_eq (a : Nat) (r : List UInt8) : adA a r = a + sm r := by
  induction r generalizing a with
  | nil => simp [adA, sm]
  | cons x r ih => simp only [adA, sm, ih]; omega

theorem adB_eq (a b : Nat) (r : List UInt8) : adB a b r = b + r.length * a + ws r := by
  induction r generalizing a b with
  | nil => simp [adB, ws]
  | cons x r ih =>
    simp only [adB, ws, ih, List.length_cons, Nat.add_mul, Nat.mul_add, Nat.one_mul]
    omega

theorem sm_append (x y : List UInt8) : sm (x ++ y) = sm x + sm y := by
  induction x with
  | nil => simp [sm]
  | cons a x ih => simp only [List.cons_append, sm, ih]; omega

theorem ws_append (x y : List UInt8) : ws (x ++ y) = ws x + y.length * sm x + ws y := by
  induction x with
  | nil => simp [ws, sm]
  | cons a x ih =>
    simp only [List.cons_append, ws, sm, ih, List.length_append, Nat.add_mul, Nat.mul_add, Nat.one_mul]
    omega

theorem adA_append (a : Nat) (x y : List UInt8) : adA a (x ++ y) = adA (adA a x) y := by
  simp only [adA_eq, sm_append]; omega
theorem adB_append (a b : Nat) (x y : List UInt8) : adB a b (x ++ y) = adB (adA a x) (adB a b x) y := by
  simp only [adA_eq, adB_eq, ws_append, List.length_append, Nat.add_mul, Nat.mul_add]; omega

theorem adA_mod (a : Nat) (r : List UInt8) : adA (a % 65521) r % 65521 = adA a r % 65521 := by
  simp only [adA_eq]; omega
theorem adB_mod (a b : Nat) (r : List UInt8) : adB (a % 65521) (b % 65521) r % 65521 = adB a b r % 65521 := by
  simp only [adB_eq]
  have h : (r.length * (a % 65521)) % 65521 = (r.length * a) % 65521 := by rw [Nat.mul_mod, Nat.mod_mod, ← Nat.mul_mod]
  omega

/-- the sum of data -/
def a (bs : List UInt8) : Nat := (1 + sm bs) % 65521
def b (bs : List UInt8) : Nat := (bs.length + ws bs) % 65521
theorem adA_1 (bs : List UInt8) : adA 1 bs % 65521 = a bs := by rw [adA_eq, a]
theorem adB_10 (bs : List UInt8) : adB 1 0 bs % 65521 = b bs := by rw [adB_eq, b]; simp
theorem a_lt (bs : List UInt8) : a bs < 65521 := Nat.mod_lt _ (by omega)
theorem b_lt (bs : List UInt8) : b bs < 65521 := Nat.mod_lt _ (by omega)

end Go.Proofs.YtemojkjcnkbpoaaGreatDoor.Adl

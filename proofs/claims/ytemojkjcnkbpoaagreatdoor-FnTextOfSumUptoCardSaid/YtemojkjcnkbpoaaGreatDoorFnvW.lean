/-
  Plain: a number of 128 bits in two words: the product with the prime, and a byte combined with it. No program here. No condition.
-/
import Derived.Test.YtemojkjcnkbpoaaGreatDoorFnv
namespace Go.Proofs.YtemojkjcnkbpoaaGreatDoor.Fnv

/-- two words as one number -/
def wide (hi lo : Nat) : Nat := hi * 18446744073709551616 + lo

theorem wide_lt {hi lo : Nat} (h1 : hi < 18446744073709551616) (h2 : lo < 18446744073709551616) : wide hi lo < 340282366920938463463374607431768211456 := by unfold wide; omega

theorem wide_mul (hi lo : Nat) (s1 s2 s3 s4 : Nat) (h1 : s1 = lo * 16777216 % 18446744073709551616) (h2 : s2 = 315 * hi % 18446744073709551616) (h3 : s3 = (s1 + s2) % 18446744073709551616) (h4 : s4 = (315 * lo / 18446744073709551616 + s3) % 18446744073709551616) :
    wide hi lo * 309485009821345068724781371 % 340282366920938463463374607431768211456 = wide s4 (315 * lo % 18446744073709551616) := by
  unfold wide
  subst h1 h2 h3 h4
  omega

theorem wide_xor (hi lo x : Nat) (h : lo < 18446744073709551616) (hx : x < 18446744073709551616) : wide hi lo ^^^ x = wide hi (lo ^^^ x) := by
  have hxor : lo ^^^ x < 2 ^ 64 := Nat.xor_lt_two_pow (by omega) (by omega)
  have e : ∀ y, wide hi y = 2 ^ 64 * hi + y := fun y => by unfold wide; omega
  apply Nat.eq_of_testBit_eq
  intro j
  rw [Nat.testBit_xor, e, e, Nat.testBit_two_pow_mul_add hi (by omega), Nat.testBit_two_pow_mul_add hi hxor]
  split
  · rw [Nat.testBit_xor]
  · rename_i hj
    have : x.testBit j = false := Nat.testBit_lt_two_pow (Nat.lt_of_lt_of_le hx (show 2 ^ 64 ≤ 2 ^ j from Nat.pow_le_pow_right (by omega) (by omega)))
    rw [this]
    simp

end Go.Proofs.YtemojkjcnkbpoaaGreatDoor.Fnv

/-
  Plain: the prime of FNV has an inverse; so a step of FNV can be undone. No program here. No condition.
-/
import Derived.Test.YtaplmdbcjckbkaaGreatFnv
namespace Go.Proofs.YtaplmdbcjckbkaaGreat.Fnv

def inv : Nat → Nat
  | 0 => 899433627 | 1 => 899433627 | 2 => 14886173955864302971 | 3 => 14886173955864302971 | _ => 235294668448601749631651150104872562675

theorem prime_inv {k : Nat} (hk : k < 6) : prime k * inv k % md k = 1 := by
  have : k = 0 ∨ k = 1 ∨ k = 2 ∨ k = 3 ∨ k = 4 ∨ k = 5 := by omega
  rcases this with rfl | rfl | rfl | rfl | rfl | rfl
  · rw [md0]; simp [prime, inv]
  · rw [md1]; simp [prime, inv]
  · rw [md2]; simp [prime, inv]
  · rw [md3]; simp [prime, inv]
  · rw [md4]; simp [prime, inv]
  · rw [md5]; simp [prime, inv]

theorem mul_back {k : Nat} (hk : k < 6) (a : Nat) (ha : a < md k) : a * prime k % md k * inv k % md k = a := by
  rw [Nat.mod_mul_mod, Nat.mul_assoc, Nat.mul_mod, prime_inv hk, Nat.mul_one, Nat.mod_mod, Nat.mod_eq_of_lt ha]

theorem xor_back (a x : Nat) : (a ^^^ x) ^^^ x = a := by rw [Nat.xor_assoc, Nat.xor_self, Nat.xor_zero]

/-- a step undone -/
def back (k s : Nat) (x : UInt8) : Nat := if k % 2 = 1 then (s * inv k % md k) ^^^ x.toNat else (s ^^^ x.toNat) * inv k % md k

theorem xor_lt_md (k a : Nat) (x : UInt8) (ha : a < md k) : a ^^^ x.toNat < md k := Nat.xor_lt_two_pow ha (byte_lt k x)

theorem back_step {k : Nat} (hk : k < 6) (h : Nat) (x : UInt8) (hh : h < md k) : back k (step k h x) x = h := by
  unfold back step
  by_cases h1 : k % 2 = 1
  · rw [if_pos h1, if_pos h1, mul_back hk _ (xor_lt_md k h x hh), xor_back]
  · rw [if_neg h1, if_neg h1, xor_back, mul_back hk _ hh]

theorem step_inj {k : Nat} (hk : k < 6) {h g : Nat} (x : UInt8) (hh : h < md k) (hg : g < md k) (e : step k h x = step k g x) : h = g := by
  rw [← back_step hk h x hh, ← back_step hk g x hg, e]

theorem run_inj {k : Nat} (hk : k < 6) (bs : List UInt8) {h g : Nat} (hh : h < md k) (hg : g < md k) (e : run k h bs = run k g bs) : h = g := by
  induction bs generalizing h g with
  | nil => exact e
  | cons x r ih => exact step_inj hk x hh hg (ih (step_lt k h x) (step_lt k g x) e)

theorem apart {k : Nat} (hk : k < 6) (x y m : List UInt8) : sum k x = sum k y ↔ sum k (x ++ m) = sum k (y ++ m) := by
  rw [sum_append, sum_append]
  exact ⟨fun h => by rw [h], fun h => run_inj hk m (sum_lt k x hk) (sum_lt k y hk) h⟩

end Go.Proofs.YtaplmdbcjckbkaaGreat.Fnv

/-
  Plain: FNV-1 and FNV-1a at 32, 64 and 128 bits as numbers. No program here. No condition.
-/
import Derived.Test.YtemojkjcnkbpoaaGreatDoorBase
namespace Go.Proofs.YtemojkjcnkbpoaaGreatDoor.Fnv

def bits : Nat → Nat
  | 0 => 32 | 1 => 32 | 2 => 64 | 3 => 64 | _ => 128
def md (k : Nat) : Nat := 2 ^ bits k
def prime : Nat → Nat
  | 0 => 16777619 | 1 => 16777619 | 2 => 1099511628211 | 3 => 1099511628211 | _ => 309485009821345068724781371
def offset : Nat → Nat
  | 0 => 2166136261 | 1 => 2166136261 | 2 => 14695981039346656037 | 3 => 14695981039346656037 | _ => 144066263297769815596495629667062367629
/-- one byte more -/
def step (k h : Nat) (x : UInt8) : Nat := if k % 2 = 1 then (h ^^^ x.toNat) * prime k % md k else (h * prime k % md k) ^^^ x.toNat
def run (k h : Nat) : List UInt8 → Nat
  | [] => h
  | x :: r => run k (step k h x) r
def sum (k : Nat) (bs : List UInt8) : Nat := run k (offset k) bs

theorem bits_ge (k : Nat) : 32 ≤ bits k := by unfold bits; split <;> omega
theorem md_pos (k : Nat) : 0 < md k := Nat.two_pow_pos _
theorem byte_lt (k : Nat) (x : UInt8) : x.toNat < md k := by
  have h1 := x.toNat_lt
  have h2 : 2 ^ 32 ≤ md k := Nat.pow_le_pow_right (by omega) (bits_ge k)
  omega
theorem step_lt (k h : Nat) (x : UInt8) : step k h x < md k := by
  unfold step
  split
  · exact Nat.mod_lt _ (md_pos k)
  · exact Nat.xor_lt_two_pow (Nat.mod_lt _ (md_pos k)) (byte_lt k x)
theorem run_lt (k h : Nat) (bs : List UInt8) (hh : h < md k) : run k h bs < md k := by
  induction bs generalizing h with
  | nil => exact hh
  | cons x r ih => exact ih _ (step_lt k h x)
theorem run_append (k h : Nat) (x y : List UInt8) : run k h (x ++ y) = run k (run k h x) y := by
  induction x generalizing h with
  | nil => rfl
  | cons a x ih => exact ih _
theorem sum_append (k : Nat) (x y : List UInt8) : sum k (x ++ y) = run k (sum k x) y := run_append _ _ _ _
theorem run_snoc (k h : Nat) (x : List UInt8) (y : UInt8) : run k h (x ++ [y]) = step k (run k h x) y := by rw [run_append]; rfl

theorem md0 : md 0 = 4294967296 := by simp [md, bits]
theorem md1 : md 1 = 4294967296 := by simp [md, bits]
theorem md2 : md 2 = 18446744073709551616 := by simp [md, bits]
theorem md3 : md 3 = 18446744073709551616 := by simp [md, bits]
theorem md4 : md 4 = 340282366920938463463374607431768211456 := by simp [md, bits]
theorem md5 : md 5 = 340282366920938463463374607431768211456 := by simp [md, bits]
theorem step0 (h : Nat) (x : UInt8) : step 0 h x = (h * 16777619 % 4294967296) ^^^ x.toNat := by simp [step, prime, md0]
theorem step1 (h : Nat) (x : UInt8) : step 1 h x = (h ^^^ x.toNat) * 16777619 % 4294967296 := by simp [step, prime, md1]
theorem step2 (h : Nat) (x : UInt8) : step 2 h x = (h * 1099511628211 % 18446744073709551616) ^^^ x.toNat := by simp [step, prime, md2]
theorem step3 (h : Nat) (x : UInt8) : step 3 h x = (h ^^^ x.toNat) * 1099511628211 % 18446744073709551616 := by simp [step, prime, md3]
theorem step4 (h : Nat) (x : UInt8) : step 4 h x = (h * 309485009821345068724781371 % 340282366920938463463374607431768211456) ^^^ x.toNat := by simp [step, prime, md4]
theorem step5 (h : Nat) (x : UInt8) : step 5 h x = (h ^^^ x.toNat) * 309485009821345068724781371 % 340282366920938463463374607431768211456 := by simp [step, prime, md5]
theorem sum_lt (k : Nat) (bs : List UInt8) (hk : k < 6) : sum k bs < md k := by
  refine run_lt k _ bs ?_
  have : k = 0 ∨ k = 1 ∨ k = 2 ∨ k = 3 ∨ k = 4 ∨ k = 5 := by omega
  rcases this with rfl | rfl | rfl | rfl | rfl | rfl
  · rw [md0]; simp [offset]
  · rw [md1]; simp [offset]
  · rw [md2]; simp [offset]
  · rw [md3]; simp [offset]
  · rw [md4]; simp [offset]
  · rw [md5]; simp [offset]

end Go.Proofs.YtemojkjcnkbpoaaGreatDoor.Fnv

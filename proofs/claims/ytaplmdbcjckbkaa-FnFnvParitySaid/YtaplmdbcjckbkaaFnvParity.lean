/-
  FnFnvParity: the last bit of a sum of FNV is 1 where an even number of bytes is odd, for every kind and every list of bytes. No condition.
-/
import Derived.Test.YtaplmdbcjckbkaaFnvS
import Derived.Test.YtaplmdbcjckbkaaBits8
namespace Go.Proofs.Ytaplmdbcjckbkaa
open Go.RowKit
set_option linter.unusedVariables false

theorem xor_mod2 (a b : Nat) : (a ^^^ b) % 2 = (a + b) % 2 := by
  have h : (a ^^^ b) % 2 ^ 1 = (a % 2 ^ 1) ^^^ (b % 2 ^ 1) := Nat.xor_mod_two_pow
  rw [Nat.pow_one] at h
  rw [h, Nat.add_mod]
  rcases Nat.mod_two_eq_zero_or_one a with h1 | h1 <;> rcases Nat.mod_two_eq_zero_or_one b with h2 | h2 <;> rw [h1, h2] <;> decide

def Fnv.par (p : Nat) : List UInt8 → Nat
  | [] => p
  | x :: r => Fnv.par ((p + x.toNat) % 2) r

theorem Fnv.prime_odd {k : Nat} (hk : k < 6) : Fnv.prime k % 2 = 1 := by
  rcases kinds6 hk with rfl | rfl | rfl | rfl | rfl | rfl <;> simp [Fnv.prime]
theorem Fnv.offset_odd {k : Nat} (hk : k < 6) : Fnv.offset k % 2 = 1 := by
  rcases kinds6 hk with rfl | rfl | rfl | rfl | rfl | rfl <;> simp [Fnv.offset]
theorem Fnv.md_even (k : Nat) : 2 ∣ Fnv.md k := by
  have h := Fnv.bits_ge k
  unfold Fnv.md
  exact Nat.dvd_trans (by decide : 2 ∣ 2 ^ 1) (Nat.pow_dvd_pow 2 (by omega))
theorem Fnv.step_par {k : Nat} (hk : k < 6) (h : Nat) (x : UInt8) : Fnv.step k h x % 2 = (h + x.toNat) % 2 := by
  have ho := Fnv.prime_odd hk
  have hm : ∀ a, a * Fnv.prime k % Fnv.md k % 2 = a % 2 := by
    intro a
    rw [Nat.mod_mod_of_dvd _ (Fnv.md_even k), Nat.mul_mod, ho]
    omega
  unfold Fnv.step
  split
  · rw [hm, xor_mod2]
  · rw [xor_mod2, Nat.add_mod, hm]
    omega
theorem Fnv.run_par {k : Nat} (hk : k < 6) (h : Nat) (bs : List UInt8) : Fnv.run k h bs % 2 = Fnv.par (h % 2) bs := by
  induction bs generalizing h with
  | nil => rfl
  | cons x r ih =>
    show Fnv.run k (Fnv.step k h x) r % 2 = Fnv.par ((h % 2 + x.toNat) % 2) r
    rw [ih, Fnv.step_par hk, Nat.mod_add_mod]
theorem Fnv.sum_par {k : Nat} (hk : k < 6) (bs : List UInt8) : Fnv.sum k bs % 2 = Fnv.par 1 bs := by
  unfold Fnv.sum
  rw [Fnv.run_par hk, Fnv.offset_odd hk]

theorem and1_u8 (a : Nat) (ha : a < 256) : Go.bits .and .u8 (a : Int) 1 = ((a % 2 : Nat) : Int) := by
  have h := bits_and_u8_nat a 1 ha (by omega)
  rw [Nat.and_one_is_mod] at h
  exact h
theorem and1_u64 (a : Nat) (ha : a < 18446744073709551616) : Go.bits .and .u64 (a : Int) 1 = ((a % 2 : Nat) : Int) := by
  have h := bits_and_u64_nat a 1 ha (by omega)
  rw [Nat.and_one_is_mod] at h
  exact h
theorem xor1_u64 (p q : Nat) (hp : p < 2) : Go.bits .xor .u64 (p : Int) ((q % 2 : Nat) : Int) = (((p + q) % 2 : Nat) : Int) := by
  have h := bits_xor_u64_nat p (q % 2) (by omega) (by omega)
  have e : p ^^^ (q % 2) = (p + q) % 2 := by
    have h1 : p ^^^ (q % 2) < 2 ^ 1 := Nat.xor_lt_two_pow (by omega) (by omega)
    have h2 := xor_mod2 p (q % 2)
    omega
  rw [e] at h
  exact h

set_option maxRecDepth 100000 in
set_option maxHeartbeats 2000000 in
theorem fnvParity_walk (a0 : Int) (A1 : Option Addr) (c1 : Nat) (bs1 : List UInt8) (w : World) (h0 : -9223372036854775808 ≤ a0 ∧ a0 ≤ 9223372036854775807) (rd1 : Rd w w.heap.size A1 bs1) (lc1 : bs1.length ≤ c1) (lm1 : c1 ≤ 140737488351232) :
    Calls Try.prog 13 #[.int .i64 a0, .slice A1 bs1.length c1] w fun e w' => e = .returned (.bool true) ∧ Below w.heap.size w w' := by
  obtain ⟨n, hn⟩ : ∃ n, n = bs1.length := ⟨_, rfl⟩
  rw [← hn] at lc1 ⊢
  have HN := Lib.hid hn
  clear hn
  by_cases hr : 0 ≤ a0 ∧ a0 ≤ 5
  · obtain ⟨k, rfl, hk⟩ : ∃ k : Nat, a0 = (k : Int) ∧ k < 6 := ⟨a0.toNat, by omega, by omega⟩
    have hd : decide (0 ≤ (k : Int) ∧ (k : Int) ≤ 5) = true := decide_eq_true hr
    have hs := Fnv.sum_par hk bs1
    have HS := Lib.hid hs
    clear hs hr h0
    go_enter Try.func13, Try.ntmps13
    go_wp2_with fail
    refine (isFnv_any _ w).mono ?_
    rintro e w1 ⟨rfl, rfl⟩
    rw [hd]
    go_wp2_with fail
    go_loopg [5, 15] n (fun gk v ix wr => ∃ (i p : Nat), i + gk = n ∧ ix = .int .i64 (i : Int) ∧ p < 2 ∧ v = .int .u64 (p : Int) ∧ Hid (Fnv.par p (bs1.drop i) = Fnv.par 1 bs1) ∧ wr = w1)
    case atStart => exact ⟨0, 1, by omega, rfl, by omega, rfl, rfl, rfl⟩
    case round =>
      obtain ⟨i, p, hin, rfl, hp, rfl, hrun, rfl⟩ := hrel
      have HI := Lib.hid hin
      have hinn : i ≤ n := by omega
      clear hin
      by_cases hlti : i < n
      · obtain ⟨b, off, x, rfl, hbB, hx, hcx⟩ := rd1.at (k := i) (by have := HN.out; omega)
        have hxb := x.toNat_lt
        have hdrop : bs1.drop i = x :: bs1.drop (i + 1) := by
          obtain ⟨hl, he⟩ := List.getElem?_eq_some_iff.1 hx
          rw [List.drop_eq_getElem_cons hl, he]
        have hr2 := hrun.out
        rw [hdrop, Fnv.par] at hr2
        have HR2 := Lib.hid hr2
        have o1 := and1_u8 x.toNat hxb
        have o2 := xor1_u64 p x.toNat hp
        have rl : (p + x.toNat) % 2 < 2 := Nat.mod_lt _ (by omega)
        obtain ⟨q, hq⟩ : ∃ q, q = x.toNat % 2 := ⟨_, rfl⟩
        obtain ⟨r, hr⟩ : ∃ r, r = (p + x.toNat) % 2 := ⟨_, rfl⟩
        have ow : IntKind.u64.wrap (q : Int) = (q : Int) := by rw [IntKind.wrap_u64]; omega
        rw [← hq] at o1 o2
        rw [← hr] at o2 rl
        have HRR := Lib.hid hr
        clear hr2 hdrop hx hrun hq hr
        go_wp2
        go_roundg (gk - 1)
        case measure => have := HI.out; omega
        case rel => exact ⟨i + 1, r, by have := HI.out; omega, by go_num, rl, rfl, by rw [HRR.out]; exact HR2, rfl⟩
      · have hd : Fnv.par 1 bs1 = p := by
          have := hrun.out
          rw [List.drop_eq_nil_of_le (by have := HN.out; omega), Fnv.par] at this
          exact this.symm
        have HD := Lib.hid hd
        clear hd hrun
        go_wp2_with fail
        refine (fnv_any k hk A1 n c1 bs1 _ HN.out rd1 (by have := HN.out; omega)).mono ?_
        rintro e w2 ⟨rfl, hb2⟩
        obtain ⟨u, hu⟩ : ∃ u, u = ((Fnv.sum k bs1 / 18446744073709551616 : Nat) : Int) := ⟨_, rfl⟩
        obtain ⟨v, hv⟩ : ∃ v, v = Fnv.sum k bs1 % 18446744073709551616 := ⟨_, rfl⟩
        rw [show wv (Fnv.sum k bs1) = .agg #[.int .u64 u, .int .u64 (v : Int)] by rw [hu, hv, wv]]
        have o1 := and1_u64 v (by omega)
        have o2 : v % 2 = p := by rw [hv, Nat.mod_mod_of_dvd _ (by decide : 2 ∣ 18446744073709551616), HS.out, HD.out]
        rw [o2] at o1
        have o3 : ((p : Int) == (p : Int)) = true := by simp
        clear hu hv o2
        go_wp2
        go_ret
        exact ⟨rfl, hb2.alloc hb2.size _⟩
  · have hd : decide (0 ≤ a0 ∧ a0 ≤ 5) = false := decide_eq_false hr
    go_enter Try.func13, Try.ntmps13
    go_wp2_with fail
    refine (isFnv_any _ w).mono ?_
    rintro e w1 ⟨rfl, rfl⟩
    rw [hd]
    go_wp2
    go_ret
    exact ⟨rfl, Below.refl _ _⟩

end Go.Proofs.Ytaplmdbcjckbkaa

/-
  FnAdlerRepeated: the sum of data that are written k times follows from the sum of the data and their length, for every list of bytes and every k. No condition.
-/
import Derived.Test.YtaplmdbcjckbkaaAdler
import Derived.Test.YtaplmdbcjckbkaaApp
import Derived.Deep.LoopGhost
import Derived.Deep.DeepCutAuto
namespace Go.Proofs.Ytaplmdbcjckbkaa
open Go.RowKit

def rep (k : Nat) (bs : List UInt8) : List UInt8 := (List.replicate k bs).flatten
theorem rep_succ (k : Nat) (bs : List UInt8) : rep (k + 1) bs = bs ++ rep k bs := by simp [rep, List.replicate_succ]
theorem rep_len (k : Nat) (bs : List UInt8) : (rep k bs).length = k * bs.length := by simp [rep]
theorem rep_snoc (k : Nat) (bs : List UInt8) : rep k bs ++ bs = rep (k + 1) bs := by
  induction k with
  | zero => simp [rep]
  | succ k ih => rw [rep_succ, List.append_assoc, ih, ← rep_succ]

theorem emod_mul_left (x y m : Int) : (x % m * y) % m = (x * y) % m := by rw [Int.mul_emod, Int.emod_emod_of_dvd _ (Int.dvd_refl _), ← Int.mul_emod]
theorem emod_mul_right (x y m : Int) : (x * (y % m)) % m = (x * y) % m := by rw [Int.mul_emod, Int.emod_emod_of_dvd _ (Int.dvd_refl _), ← Int.mul_emod]

theorem Adl.rep_sums (k : Nat) (bs : List UInt8) : Adl.sm (rep k bs) = k * Adl.sm bs ∧ 2 * Adl.ws (rep k bs) + bs.length * Adl.sm bs * k = 2 * (k * Adl.ws bs) + bs.length * Adl.sm bs * (k * k) := by
  induction k with
  | zero => simp [rep, Adl.sm, Adl.ws]
  | succ k ih =>
    obtain ⟨h1, h2⟩ := ih
    rw [rep_succ, Adl.sm_append, Adl.ws_append, rep_len, h1]
    generalize bs.length = n at *
    generalize Adl.sm bs = s at *
    generalize Adl.ws bs = x at *
    generalize Adl.ws (rep k bs) = y at *
    have e1 : (k + 1) * s = k * s + s := by rw [Nat.add_mul, Nat.one_mul]
    have e2 : k * n * s = n * s * k := by rw [Nat.mul_assoc, Nat.mul_comm]
    have e3 : n * s * (k + 1) = n * s * k + n * s := by rw [Nat.mul_add, Nat.mul_one]
    have e4 : (k + 1) * (k + 1) = k * k + 2 * k + 1 := by simp only [Nat.add_mul, Nat.mul_add]; omega
    have e5 : n * s * (k * k + 2 * k + 1) = n * s * (k * k) + 2 * (n * s * k) + n * s := by rw [Nat.mul_add, Nat.mul_add, Nat.mul_one, Nat.mul_left_comm (n * s) 2 k]
    have e6 : (k + 1) * x = k * x + x := by rw [Nat.add_mul, Nat.one_mul]
    refine ⟨by omega, ?_⟩
    rw [e2, e3, e4, e5, e6]
    omega

theorem Adl.rep_ab (k : Nat) (bs : List UInt8) :
    (Adl.a (rep k bs) : Int) = (1 + (k : Int) % 65521 * ((Adl.a bs : Int) - 1)) % 65521 ∧
    (Adl.b (rep k bs) : Int) = ((k : Int) % 65521 * (Adl.b bs : Int) + ((bs.length : Int) % 65521 * ((Adl.a bs : Int) - 1)) % 65521 * ((k : Int) * ((k : Int) - 1) / 2 % 65521)) % 65521 := by
  obtain ⟨h1, h2⟩ := Adl.rep_sums k bs
  have hlen := rep_len k bs
  obtain ⟨p, hp⟩ : ∃ p : Int, (1 : Int) + Adl.sm bs = 65521 * p + Adl.a bs := ⟨((1 + Adl.sm bs) / 65521 : Nat), by unfold Adl.a; omega⟩
  obtain ⟨q, hq⟩ : ∃ q : Int, (bs.length : Int) + Adl.ws bs = 65521 * q + Adl.b bs := ⟨((bs.length + Adl.ws bs) / 65521 : Nat), by unfold Adl.b; omega⟩
  have hA : (Adl.a (rep k bs) : Int) = (1 + (k : Int) * Adl.sm bs) % 65521 := by
    have : ((k * Adl.sm bs : Nat) : Int) = (k : Int) * Adl.sm bs := Int.natCast_mul _ _
    simp only [Adl.a, h1]; omega
  have hB : (Adl.b (rep k bs) : Int) = ((k : Int) * bs.length + Adl.ws (rep k bs)) % 65521 := by
    have : ((k * bs.length : Nat) : Int) = (k : Int) * bs.length := Int.natCast_mul _ _
    simp only [Adl.b, hlen]; omega
  obtain ⟨t, ht⟩ : ∃ t : Int, (k : Int) * ((k : Int) - 1) = 2 * t := by
    rcases Nat.mod_two_eq_zero_or_one k with h | h
    · obtain ⟨j, hj⟩ : ∃ j : Nat, k = 2 * j := ⟨k / 2, by omega⟩
      exact ⟨(j : Int) * ((k : Int) - 1), by rw [← Int.mul_assoc]; congr 1; omega⟩
    · obtain ⟨j, hj⟩ : ∃ j : Nat, k = 2 * j + 1 := ⟨k / 2, by omega⟩
      exact ⟨(k : Int) * j, by rw [Int.mul_left_comm]; congr 1; omega⟩
  have hW : (Adl.ws (rep k bs) : Int) = (k : Int) * Adl.ws bs + (bs.length : Int) * Adl.sm bs * t := by
    have h3 : (2 * Adl.ws (rep k bs) : Int) + (bs.length : Int) * Adl.sm bs * k = 2 * ((k : Int) * Adl.ws bs) + (bs.length : Int) * Adl.sm bs * ((k : Int) * k) := by exact_mod_cast h2
    have h4 : (bs.length : Int) * Adl.sm bs * ((k : Int) * k) = (bs.length : Int) * Adl.sm bs * k + 2 * ((bs.length : Int) * Adl.sm bs * t) := by
      have : (k : Int) * k = k + 2 * t := by rw [← ht, Int.mul_sub, Int.mul_one]; omega
      rw [this, Int.mul_add, Int.mul_left_comm]
    omega
  have e1 : (k : Int) * ((k : Int) - 1) / 2 = t := by rw [ht]; omega
  have hs : (Adl.sm bs : Int) = ((Adl.a bs : Int) - 1) + 65521 * p := by omega
  have hw : (Adl.ws bs : Int) = (Adl.b bs : Int) - bs.length + 65521 * q := by omega
  constructor
  · rw [hA, hs]
    have := emod_mul_left (k : Int) ((Adl.a bs : Int) - 1) 65521
    have e : (k : Int) * (((Adl.a bs : Int) - 1) + 65521 * p) = (k : Int) * ((Adl.a bs : Int) - 1) + 65521 * ((k : Int) * p) := by rw [Int.mul_add, Int.mul_left_comm]
    rw [e]
    omega
  · rw [hB, hW, e1]
    generalize hx : (k : Int) * Adl.b bs = x
    generalize hy : (bs.length : Int) * ((Adl.a bs : Int) - 1) * t = y
    have f1 : (k : Int) * bs.length + ((k : Int) * Adl.ws bs + (bs.length : Int) * Adl.sm bs * t) = x + y + 65521 * ((k : Int) * q + (bs.length : Int) * p * t) := by
      rw [hs, hw, ← hx, ← hy]
      simp only [Int.mul_add, Int.add_mul, Int.mul_sub, Int.mul_left_comm, Int.mul_assoc, Int.mul_comm, Int.mul_one]
      omega
    have f2 : ((k : Int) % 65521 * (Adl.b bs : Int)) % 65521 = x % 65521 := by rw [emod_mul_left, hx]
    have f3 : (((bs.length : Int) % 65521 * ((Adl.a bs : Int) - 1)) % 65521 * (t % 65521)) % 65521 = y % 65521 := by
      rw [emod_mul_right, emod_mul_left, Int.mul_assoc, emod_mul_left, ← Int.mul_assoc, hy]
    rw [f1]
    omega

theorem div_lt_cast (n K : Nat) : (100000 : Int) / (n : Int) < (K : Int) ↔ 100000 / n < K := by
  have e : (100000 : Int) / (n : Int) = ((100000 / n : Nat) : Int) := (Int.natCast_ediv 100000 n).symm
  rw [e]
  omega

set_option maxRecDepth 100000 in
set_option maxHeartbeats 2000000 in
theorem adlerRepeated_walk (A0 : Option Addr) (c0 : Nat) (bs0 : List UInt8) (a1 : Int) (w : World) (rd0 : Rd w w.heap.size A0 bs0) (lc0 : bs0.length ≤ c0) (lm0 : c0 ≤ 140737488351232) (b1 : -9223372036854775808 ≤ a1 ∧ a1 ≤ 9223372036854775807) :
    Calls Try.prog 6 #[.slice A0 bs0.length c0, .int .i64 a1] w fun e w' => e = .returned (.bool true) ∧ Below w.heap.size w w' := by
  obtain ⟨n, hn⟩ : ∃ n, n = bs0.length := ⟨_, rfl⟩
  rw [← hn] at lc0 ⊢
  have HN := Lib.hid hn
  clear hn
  by_cases h0 : a1 < 0
  · go_enter Try.func6, Try.ntmps6
    go_wp2
    go_ret
    exact ⟨rfl, Below.refl _ _⟩
  by_cases h1 : 100000 < a1
  · go_enter Try.func6, Try.ntmps6
    go_wp2
    go_ret
    exact ⟨rfl, Below.refl _ _⟩
  obtain ⟨K, rfl⟩ := Int.eq_ofNat_of_zero_le (show 0 ≤ a1 by omega)
  have hK : K ≤ 100000 := by omega
  clear h0 h1 b1
  have d1 : decide ((K : Int) < 0) = false := decide_eq_false (by omega)
  have d2 : decide ((100000 : Int) < (K : Int)) = false := decide_eq_false (by omega)
  by_cases hbig : 0 < n ∧ 100000 / n < K
  · obtain ⟨hn0, hq⟩ := hbig
    have d3 : (0 : Int) < (n : Int) := by omega
    have d4 : (100000 : Int) / (n : Int) < (K : Int) := (div_lt_cast n K).2 hq
    go_enter Try.func6, Try.ntmps6
    go_wp2
    go_ret
    exact ⟨rfl, Below.refl _ _⟩
  have htot : K * n ≤ 100000 := by
    by_cases hz : n = 0
    · subst hz; omega
    · have h1 : K ≤ 100000 / n := by omega
      have h2 := Nat.mul_le_mul_right n h1
      have h3 := Nat.div_mul_le_self 100000 n
      omega
  obtain ⟨e1, e2⟩ := Adl.rep_ab K bs0
  rw [← HN.out] at e2
  have la := Adl.a_lt bs0
  have lb := Adl.b_lt bs0
  have lc := Adl.a_lt (rep K bs0)
  have ld := Adl.b_lt (rep K bs0)
  obtain ⟨a, ea⟩ : ∃ a, a = Adl.a bs0 := ⟨_, rfl⟩
  obtain ⟨b, eb⟩ : ∃ b, b = Adl.b bs0 := ⟨_, rfl⟩
  obtain ⟨c, ec⟩ : ∃ c, c = Adl.a (rep K bs0) := ⟨_, rfl⟩
  obtain ⟨d, ed⟩ : ∃ d, d = Adl.b (rep K bs0) := ⟨_, rfl⟩
  rw [← ea] at la e1 e2
  rw [← eb] at lb e2
  rw [← ec] at lc e1
  rw [← ed] at ld e2
  have HA := Lib.hid ea
  have HB := Lib.hid eb
  have HC := Lib.hid ec
  have HD := Lib.hid ed
  have t1 : ((c : Int) == (1 + (K : Int) % 65521 * ((a : Int) - 1)) % 65521) = true := by rw [beq_iff_eq]; exact e1
  have t2 : ((d : Int) == ((K : Int) % 65521 * (b : Int) + ((n : Int) % 65521 * ((a : Int) - 1)) % 65521 * ((K : Int) * ((K : Int) - 1) / 2 % 65521)) % 65521) = true := by rw [beq_iff_eq]; exact e2
  have p1 : -65521 ≤ (K : Int) % 65521 * ((a : Int) - 1) := by
    have : ((K : Int) % 65521) * (-1) ≤ ((K : Int) % 65521) * ((a : Int) - 1) := Int.mul_le_mul_of_nonneg_left (by omega) (by omega)
    omega
  have p2 : (K : Int) % 65521 * ((a : Int) - 1) ≤ 65521 * 65521 := by
    have : ((K : Int) % 65521) * ((a : Int) - 1) ≤ ((K : Int) % 65521) * 65521 := Int.mul_le_mul_of_nonneg_left (by omega) (by omega)
    omega
  have p3 : -65521 ≤ (n : Int) % 65521 * ((a : Int) - 1) := by
    have : ((n : Int) % 65521) * (-1) ≤ ((n : Int) % 65521) * ((a : Int) - 1) := Int.mul_le_mul_of_nonneg_left (by omega) (by omega)
    omega
  have p4 : (n : Int) % 65521 * ((a : Int) - 1) ≤ 65521 * 65521 := by
    have : ((n : Int) % 65521) * ((a : Int) - 1) ≤ ((n : Int) % 65521) * 65521 := Int.mul_le_mul_of_nonneg_left (by omega) (by omega)
    omega
  have p5 : 0 ≤ (K : Int) * ((K : Int) - 1) := by
    by_cases hz : K = 0
    · subst hz; simp
    · exact Int.mul_nonneg (by omega) (by omega)
  have p6 : (K : Int) * ((K : Int) - 1) ≤ 100000 * 100000 := by
    have : (K : Int) * ((K : Int) - 1) ≤ (K : Int) * 100000 := Int.mul_le_mul_of_nonneg_left (by omega) (by omega)
    omega
  have p7 : 0 ≤ (K : Int) % 65521 * (b : Int) := Int.mul_nonneg (by omega) (by omega)
  have p8 : (K : Int) % 65521 * (b : Int) ≤ 65521 * 65521 := Int.mul_le_mul (by omega) (by omega) (by omega) (by omega)
  have p9 : 0 ≤ ((n : Int) % 65521 * ((a : Int) - 1)) % 65521 * ((K : Int) * ((K : Int) - 1) / 2 % 65521) := Int.mul_nonneg (by omega) (by omega)
  have p10 : ((n : Int) % 65521 * ((a : Int) - 1)) % 65521 * ((K : Int) * ((K : Int) - 1) / 2 % 65521) ≤ 65521 * 65521 := Int.mul_le_mul (by omega) (by omega) (by omega) (by omega)
  have hg : decide (0 < n) = false ∨ (0 < n ∧ decide (0 < n) = true ∧ (K : Int) ≤ (100000 : Int) / (n : Int) ∧ decide ((100000 : Int) / (n : Int) < (K : Int)) = false) := by
    by_cases hz : n = 0
    · exact .inl (by simp [hz])
    · have hnn : ¬ (100000 : Int) / (n : Int) < (K : Int) := by
        intro h
        have h' : 100000 / n < K := (div_lt_cast n K).1 h
        exact hbig ⟨by omega, h'⟩
      exact .inr ⟨by omega, by simp; omega, by omega, decide_eq_false hnn⟩
  clear ea eb ec ed e1 e2 hbig
  rcases hg with hg | ⟨hg0, hg, hg1, hg2⟩
  all_goals
    go_enter Try.func6, Try.ntmps6
    go_wp2
    go_loopg [6, 7] K (fun gk v ix wr => ∃ (i g d m : Nat), i + gk = K ∧ ix = .int .i64 (i : Int) ∧ v = .slice (some ⟨g, 0, none⟩) m d ∧ Hid (m = (rep i bs0).length) ∧ Hid (Own wr w.heap.size g d (rep i bs0)) ∧ Hid (Below w.heap.size w wr))
    case atStart => exact ⟨0, w.heap.size, 0, 0, by omega, rfl, rfl, rfl, Own.empty w _ (Nat.le_refl _), (Below.refl _ _).alloc (Nat.le_refl _) _⟩
    case round =>
      obtain ⟨i, g, dd, m, hi, rfl, rfl, hm, hown, hbel⟩ := hrel
      have HI := Lib.hid hi
      have hik : i ≤ K := by omega
      have z := hbel.out.size
      clear hi
      by_cases hlt : i < K
      · have hle : (rep i bs0).length + bs0.length ≤ 100000 := by
          rw [rep_len, ← HN.out]
          have := Nat.mul_le_mul_right n (show i + 1 ≤ K by omega)
          rw [Nat.add_mul, Nat.one_mul] at this
          omega
        go_wp2_with (at_builtin; refine wpList_append_bytes rfl _ _ 22 rfl Try.underlying22 w.heap.size g dd (rep i bs0) bs0 m n rfl hm.out hown.out w.heap.size A0 c0 rfl HN.out (rd0.below hbel.out) (by omega) z ?_; intro g' c' w1 h1 h2)
        go_roundg (gk - 1)
        case measure => have := HI.out; omega
        case rel =>
          rw [rep_snoc] at h1
          refine ⟨i + 1, g', c', _, by have := HI.out; omega, by go_num, rfl, ?_, h1, ?_⟩
          · show _ = _
            rw [← rep_snoc]
            try simp
          · exact hbel.out.grown h2 z (fun j hj => by injection hj with hj; subst hj; exact hown.out.lt'.1)
      · obtain rfl : i = K := by omega
        clear hlt
        go_wp2_with fail
        refine (adler_any _ _ _ bs0 wr HN.out ((rd0.below hbel.out).mono z) (by have := HN.out; omega)).mono ?_
        rintro e w2 ⟨rfl, hb2⟩
        rw [← HA.out, ← HB.out]
        have bw2 : Below w.heap.size w w2 := hbel.out.trans (hb2.mono z)
        have z2 := bw2.size
        go_wp2_with fail
        refine (adler_any _ _ _ (rep i bs0) w2 hm.out ((hown.out.rd.below hb2).mono hb2.size) (by rw [rep_len, ← HN.out]; omega)).mono ?_
        rintro e w3 ⟨rfl, hb3⟩
        rw [← HC.out, ← HD.out]
        have bw3 : Below w.heap.size w w3 := bw2.trans (hb3.mono z2)
        clear hb2 hb3 bw2
        go_wp2_with fail
        refine (rest_any _ _ (by omega) (by omega)).mono ?_
        rintro e w4 ⟨rfl, rfl⟩
        go_wp2_with fail
        refine (rest_any _ _ (by omega) (by omega)).mono ?_
        rintro e w4 ⟨rfl, rfl⟩
        go_wp2_with fail
        refine (rest_any _ _ (by omega) (by omega)).mono ?_
        rintro e w4 ⟨rfl, rfl⟩
        go_wp2_with fail
        refine (rest_any _ _ (by omega) (by omega)).mono ?_
        rintro e w4 ⟨rfl, rfl⟩
        go_wp2_with fail
        refine (rest_any _ _ (by omega) (by omega)).mono ?_
        rintro e w4 ⟨rfl, rfl⟩
        go_wp2_with fail
        refine (rest_any _ _ (by omega) (by omega)).mono ?_
        rintro e w4 ⟨rfl, rfl⟩
        go_wp2_with fail
        refine (rest_any _ _ (by omega) (by omega)).mono ?_
        rintro e w4 ⟨rfl, rfl⟩
        go_wp2_with fail
        go_ret
        exact ⟨rfl, bw3⟩

end Go.Proofs.Ytaplmdbcjckbkaa

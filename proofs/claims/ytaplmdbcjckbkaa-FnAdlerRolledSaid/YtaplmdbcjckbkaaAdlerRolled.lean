/-
  FnAdlerRolled: the sum of a window that rolls on by one byte follows from that before, the byte that leaves it and the byte that comes, for every window. No condition.
-/
import Derived.Test.YtaplmdbcjckbkaaAdler
import Derived.Test.YtaplmdbcjckbkaaJoined
namespace Go.Proofs.Ytaplmdbcjckbkaa
open Go.RowKit

theorem Adl.rolled (x y : UInt8) (r : List UInt8) :
    (Adl.a (r ++ [y]) : Int) = ((Adl.a (x :: r) : Int) - x.toNat + y.toNat) % 65521 ∧
    (Adl.b (r ++ [y]) : Int) = ((Adl.b (x :: r) : Int) - ((r.length + 1) % 65521 : Nat) * x.toNat + Adl.a (r ++ [y]) - 1) % 65521 := by
  have ha : Adl.sm (r ++ [y]) = Adl.sm r + y.toNat := by rw [Adl.sm_append]; simp [Adl.sm]
  have hw : Adl.ws (r ++ [y]) = Adl.ws r + Adl.sm r + y.toNat := by rw [Adl.ws_append]; simp [Adl.ws]
  have hb : Adl.ws (x :: r) = (r.length + 1) * x.toNat + Adl.ws r := rfl
  have hc : Adl.sm (x :: r) = x.toNat + Adl.sm r := rfl
  constructor
  · simp only [Adl.a, ha, hc]; omega
  · obtain ⟨q, hq⟩ : ∃ q, r.length + 1 = 65521 * q + (r.length + 1) % 65521 := ⟨(r.length + 1) / 65521, by omega⟩
    generalize (r.length + 1) % 65521 = m at *
    have e : ((r.length + 1) * x.toNat : Nat) = 65521 * (q * x.toNat) + m * x.toNat := by rw [hq, Nat.add_mul, Nat.mul_assoc]
    have e' : ((m * x.toNat : Nat) : Int) = (m : Int) * x.toNat := Int.natCast_mul _ _
    simp only [Adl.a, Adl.b, ha, hw, hb, List.length_append, List.length_cons, List.length_nil, e]
    rw [← e']
    generalize m * x.toNat = p
    generalize q * x.toNat = s
    omega

set_option maxRecDepth 100000 in
set_option maxHeartbeats 2000000 in
theorem adlerRolled_walk (x0 : UInt8) (A1 : Option Addr) (c1 : Nat) (bs1 : List UInt8) (x2 : UInt8) (w : World) (rd1 : Rd w w.heap.size A1 bs1) (lc1 : bs1.length ≤ c1) (lm1 : c1 ≤ 140737488351232) :
    Calls Try.prog 8 #[.int .u8 (x0.toNat : Int), .slice A1 bs1.length c1, .int .u8 (x2.toNat : Int)] w fun e w' => e = .returned (.bool true) ∧ Below w.heap.size w w' := by
  obtain ⟨n, hn⟩ : ∃ n, n = bs1.length := ⟨_, rfl⟩
  rw [← hn] at lc1 ⊢
  have HN := Lib.hid hn
  obtain ⟨e1, e2⟩ := Adl.rolled x0 x2 bs1
  have la := Adl.a_lt (x0 :: bs1)
  have lb := Adl.b_lt (x0 :: bs1)
  have lc := Adl.a_lt (bs1 ++ [x2])
  have ld := Adl.b_lt (bs1 ++ [x2])
  have hx0 := x0.toNat_lt
  have hx2 := x2.toNat_lt
  rw [← hn] at e2
  have hm0 : (n + 1) % 65521 < 65521 := Nat.mod_lt _ (by omega)
  have hm : ((n : Int) + 1) % 65521 = (((n + 1) % 65521 : Nat) : Int) := by omega
  obtain ⟨a, ea⟩ : ∃ a, a = Adl.a (x0 :: bs1) := ⟨_, rfl⟩
  obtain ⟨b, eb⟩ : ∃ b, b = Adl.b (x0 :: bs1) := ⟨_, rfl⟩
  obtain ⟨c, ec⟩ : ∃ c, c = Adl.a (bs1 ++ [x2]) := ⟨_, rfl⟩
  obtain ⟨d, ed⟩ : ∃ d, d = Adl.b (bs1 ++ [x2]) := ⟨_, rfl⟩
  obtain ⟨m, em⟩ : ∃ m, m = (n + 1) % 65521 := ⟨_, rfl⟩
  rw [← ea] at la e1
  rw [← eb] at lb e2
  rw [← ec] at lc e1 e2
  rw [← ed] at ld e2
  rw [← em] at hm0 hm e2
  have HA := Lib.hid ea
  have HB := Lib.hid eb
  have HC := Lib.hid ec
  have HD := Lib.hid ed
  have t1 : ((c : Int) == ((a : Int) - x0.toNat + x2.toNat) % 65521) = true := by rw [beq_iff_eq]; exact e1
  have t2 : ((d : Int) == ((b : Int) - (m : Int) * x0.toNat + c - 1) % 65521) = true := by rw [beq_iff_eq]; exact e2
  have p1 : 0 ≤ (m : Int) * x0.toNat := Int.mul_nonneg (by omega) (by omega)
  have p2 : (m : Int) * x0.toNat ≤ 65521 * 256 := Int.mul_le_mul (by omega) (by omega) (by omega) (by omega)
  clear ea eb ec ed em hn e1 e2
  go_enter Try.func8, Try.ntmps8
  go_wp2_with fail
  obtain ⟨W1, hW1⟩ : ∃ W1, w.alloc (.cells #[.int .u8 (x0.toNat : Int)] 5) = W1 := ⟨_, rfl⟩
  have s1 : W1.heap.size = w.heap.size + 1 := by subst hW1; simp
  have r1 : Rd W1 W1.heap.size (some ⟨w.heap.size, 0, none⟩) [x0] := by rw [s1]; subst hW1; exact Rd.lit w [x0] _ (Nat.lt_succ_self _)
  have r2 : Rd W1 W1.heap.size A1 bs1 := by rw [s1]; subst hW1; exact (rd1.alloc (Nat.le_refl _) _).mono (by omega)
  have bw1 : Below w.heap.size w W1 := by subst hW1; exact (Below.refl _ _).alloc (Nat.le_refl _) _
  rw [hW1, ← s1]
  clear hW1
  refine (joined2 _ _ 1 1 n c1 [x0] bs1 W1 rfl HN.out r1 r2 ?_).mono ?_
  · have := HN.out; simp only [List.length_singleton]; omega
  rintro e w2 ⟨g2, d2, rfl, ho2, hb2, hs2⟩
  have bw2 : Below w.heap.size w w2 := bw1.trans (hb2.mono (by omega))
  have z2 := bw2.size
  go_wp2_with fail
  refine (adler_any _ _ _ ([x0] ++ bs1) w2 (by simp) ho2.rd ?_).mono ?_
  · have := HN.out; rw [List.length_append, List.length_singleton]; omega
  rintro e w3 ⟨rfl, hb3⟩
  have bw3 : Below w.heap.size w w3 := bw2.trans (hb3.mono z2)
  have z3 := bw3.size
  rw [List.singleton_append, ← HA.out, ← HB.out]
  clear r1 r2 ho2 hb2 hb3 bw1 bw2
  go_wp2_with fail
  obtain ⟨W1, hW1⟩ : ∃ W1, w3.alloc (.cells #[.int .u8 (x2.toNat : Int)] 5) = W1 := ⟨_, rfl⟩
  have s1 : W1.heap.size = w3.heap.size + 1 := by subst hW1; simp
  have r1 : Rd W1 W1.heap.size (some ⟨w3.heap.size, 0, none⟩) [x2] := by rw [s1]; subst hW1; exact Rd.lit w3 [x2] _ (Nat.lt_succ_self _)
  have r2 : Rd W1 W1.heap.size A1 bs1 := by rw [s1]; subst hW1; exact (((rd1.below bw3).mono z3).alloc (Nat.le_refl _) _).mono (by omega)
  have bw1 : Below w.heap.size w W1 := by subst hW1; exact bw3.alloc z3 _
  rw [hW1, ← s1]
  clear hW1
  refine (joined2 _ _ n c1 1 1 bs1 [x2] W1 HN.out rfl r2 r1 ?_).mono ?_
  · have := HN.out; simp only [List.length_singleton]; omega
  rintro e w4 ⟨g4, d4, rfl, ho4, hb4, hs4⟩
  have bw4 : Below w.heap.size w w4 := bw1.trans (hb4.mono (by omega))
  have z4 := bw4.size
  go_wp2_with fail
  refine (adler_any _ _ _ (bs1 ++ [x2]) w4 (by simp) ho4.rd ?_).mono ?_
  · have := HN.out; rw [List.length_append, List.length_singleton]; omega
  rintro e w5 ⟨rfl, hb5⟩
  have bw5 : Below w.heap.size w w5 := bw4.trans (hb5.mono z4)
  rw [← HC.out, ← HD.out]
  clear r1 r2 ho4 hb4 hb5 bw1 bw4 bw3
  go_wp2_with fail
  refine (rest_any _ _ (by omega) (by omega)).mono ?_
  rintro e w6 ⟨rfl, rfl⟩
  go_wp2_with fail
  refine (rest_any _ _ (by omega) (by omega)).mono ?_
  rintro e w6 ⟨rfl, rfl⟩
  go_wp2_with fail
  go_ret
  exact ⟨rfl, bw5⟩

end Go.Proofs.Ytaplmdbcjckbkaa

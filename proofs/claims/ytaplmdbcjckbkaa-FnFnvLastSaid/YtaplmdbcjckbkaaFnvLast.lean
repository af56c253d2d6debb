/-
  FnFnvLast: two sums of FNV-1 of data that differ in the last byte alone differ just in the bits of this byte, for every width and every data. No condition.
-/
import Derived.Test.YtaplmdbcjckbkaaFnvS
import Derived.Test.YtaplmdbcjckbkaaBits8
import Derived.Test.YtaplmdbcjckbkaaJoined
namespace Go.Proofs.Ytaplmdbcjckbkaa
open Go.RowKit
set_option linter.unusedVariables false

theorem xor_div64 (h x : Nat) (hx : x < 256) : (h ^^^ x) / 18446744073709551616 = h / 18446744073709551616 := by
  have e := Nat.xor_div_two_pow (a := h) (b := x) (n := 64)
  rw [show (2 : Nat) ^ 64 = 18446744073709551616 by decide] at e
  rw [e, Nat.div_eq_of_lt (by omega : x < 18446744073709551616), Nat.xor_zero]
theorem xor_mod64 (h x : Nat) (hx : x < 256) : (h ^^^ x) % 18446744073709551616 = (h % 18446744073709551616) ^^^ x := by
  have e : (h ^^^ x) % 2 ^ 64 = (h % 2 ^ 64) ^^^ (x % 2 ^ 64) := Nat.xor_mod_two_pow
  rw [show (2 : Nat) ^ 64 = 18446744073709551616 by decide] at e
  rw [e, Nat.mod_eq_of_lt (by omega : x < 18446744073709551616)]

theorem Fnv.last {k : Nat} (hk : k % 2 = 0) (bs : List UInt8) (x y : UInt8) :
    Fnv.sum k (bs ++ [x]) / 18446744073709551616 = Fnv.sum k (bs ++ [y]) / 18446744073709551616 ∧
    (Fnv.sum k (bs ++ [x]) % 18446744073709551616) ^^^ (Fnv.sum k (bs ++ [y]) % 18446744073709551616) = x.toNat ^^^ y.toNat := by
  have e : ∀ z : UInt8, Fnv.sum k (bs ++ [z]) = (Fnv.sum k bs * Fnv.prime k % Fnv.md k) ^^^ z.toNat := by
    intro z
    rw [Fnv.sum_append]
    show Fnv.step k _ z = _
    unfold Fnv.step
    rw [if_neg (by omega)]
  rw [e, e]
  generalize Fnv.sum k bs * Fnv.prime k % Fnv.md k = h
  refine ⟨by rw [xor_div64 _ _ x.toNat_lt, xor_div64 _ _ y.toNat_lt], ?_⟩
  rw [xor_mod64 _ _ x.toNat_lt, xor_mod64 _ _ y.toNat_lt]
  generalize h % 18446744073709551616 = g
  rw [Nat.xor_comm g x.toNat, Nat.xor_assoc, ← Nat.xor_assoc g g, Nat.xor_self, Nat.zero_xor]

set_option maxRecDepth 100000 in
set_option maxHeartbeats 2000000 in
theorem fnvLast_walk (a0 : Int) (A1 : Option Addr) (c1 : Nat) (bs1 : List UInt8) (x2 x3 : UInt8) (w : World) (h0 : -9223372036854775808 ≤ a0 ∧ a0 ≤ 9223372036854775807) (rd1 : Rd w w.heap.size A1 bs1) (lc1 : bs1.length ≤ c1) (lm1 : c1 ≤ 140737488351232) :
    Calls Try.prog 11 #[.int .i64 a0, .slice A1 bs1.length c1, .int .u8 (x2.toNat : Int), .int .u8 (x3.toNat : Int)] w fun e w' => e = .returned (.bool true) ∧ Below w.heap.size w w' := by
  obtain ⟨n, hn⟩ : ∃ n, n = bs1.length := ⟨_, rfl⟩
  rw [← hn] at lc1 ⊢
  have HN := Lib.hid hn
  clear hn
  have hx2 := x2.toNat_lt
  have hx3 := x3.toNat_lt
  by_cases hr0 : a0 < 0
  · have t0 : decide (a0 < 0) = true := decide_eq_true hr0
    go_enter Try.func11, Try.ntmps11
    go_wp2
    go_ret
    exact ⟨rfl, Below.refl _ _⟩
  by_cases hr2 : a0 > 2
  · have t0 : decide (a0 < 0) = false := decide_eq_false hr0
    have t2 : decide (a0 > 2) = true := decide_eq_true hr2
    go_enter Try.func11, Try.ntmps11
    go_wp2
    go_ret
    exact ⟨rfl, Below.refl _ _⟩
  obtain ⟨j, rfl, hj⟩ : ∃ j : Nat, a0 = (j : Int) ∧ j < 3 := ⟨a0.toNat, by omega, by omega⟩
  have t0 : decide ((j : Int) < 0) = false := decide_eq_false hr0
  have t2 : decide ((j : Int) > 2) = false := decide_eq_false hr2
  have hk : 2 * j < 6 := by omega
  obtain ⟨q1, q2⟩ := Fnv.last (k := 2 * j) (by omega) bs1 x2 x3
  have o0 : IntKind.i64.wrap (2 * (j : Int)) = ((2 * j : Nat) : Int) := by rw [IntKind.wrap_i64]; omega
  obtain ⟨k, ek⟩ : ∃ k, k = 2 * j := ⟨_, rfl⟩
  rw [← ek] at hk o0 q1 q2
  clear ek hr0 hr2 h0
  obtain ⟨S2, e2⟩ : ∃ S, S = Fnv.sum k (bs1 ++ [x2]) := ⟨_, rfl⟩
  obtain ⟨S3, e3⟩ : ∃ S, S = Fnv.sum k (bs1 ++ [x3]) := ⟨_, rfl⟩
  obtain ⟨u, eu⟩ : ∃ u, u = S2 / 18446744073709551616 := ⟨_, rfl⟩
  obtain ⟨v, ev⟩ : ∃ v, v = S2 % 18446744073709551616 := ⟨_, rfl⟩
  obtain ⟨v', ev'⟩ : ∃ v, v = S3 % 18446744073709551616 := ⟨_, rfl⟩
  have W2 : Hid (wv (Fnv.sum k (bs1 ++ [x2])) = .agg #[.int .u64 (u : Int), .int .u64 (v : Int)]) := by show _ = _; rw [← e2, eu, ev, wv]
  have W3 : Hid (wv (Fnv.sum k (bs1 ++ [x3])) = .agg #[.int .u64 (u : Int), .int .u64 (v' : Int)]) := by show _ = _; rw [← e3, eu, ev', wv, e2, q1, ← e3]
  rw [← e2, ← e3, ← ev, ← ev'] at q2
  have o1 := bits_xor_u64_nat v v' (by omega) (by omega)
  have o2 := bits_xor_u8_nat _ _ hx2 hx3
  have hz : x2.toNat ^^^ x3.toNat < 2 ^ 8 := Nat.xor_lt_two_pow (by omega) (by omega)
  rw [q2] at o1
  obtain ⟨z, ez⟩ : ∃ z, z = x2.toNat ^^^ x3.toNat := ⟨_, rfl⟩
  rw [← ez] at o1 o2 hz
  have o3 : IntKind.u64.wrap (z : Int) = (z : Int) := by rw [IntKind.wrap_u64]; omega
  have o4 : ((z : Int) == (z : Int)) = true := by simp
  have o5 : ((u : Int) == (u : Int)) = true := by simp
  clear q1 q2 e2 e3 eu ev ev' ez
  go_enter Try.func11, Try.ntmps11
  go_wp2_with fail
  obtain ⟨W1, hW1⟩ : ∃ W1, w.alloc (.cells #[.int .u8 (x2.toNat : Int)] 5) = W1 := ⟨_, rfl⟩
  have s1 : W1.heap.size = w.heap.size + 1 := by subst hW1; simp
  have r1 : Rd W1 W1.heap.size (some ⟨w.heap.size, 0, none⟩) [x2] := by rw [s1]; subst hW1; exact Rd.lit w [x2] _ (Nat.lt_succ_self _)
  have r2 : Rd W1 W1.heap.size A1 bs1 := by rw [s1]; subst hW1; exact (rd1.alloc (Nat.le_refl _) _).mono (by omega)
  have bw1 : Below w.heap.size w W1 := by subst hW1; exact (Below.refl _ _).alloc (Nat.le_refl _) _
  rw [hW1, ← s1]
  clear hW1
  refine (joined2 _ _ n c1 1 1 bs1 [x2] W1 HN.out rfl r2 r1 ?_).mono ?_
  · have := HN.out; simp only [List.length_singleton]; omega
  rintro e w2 ⟨g2, d2, rfl, ho2, hb2, hs2⟩
  have bw2 : Below w.heap.size w w2 := bw1.trans (hb2.mono (by omega))
  have z2 := bw2.size
  go_wp2_with fail
  refine (fnv_any k hk _ _ _ (bs1 ++ [x2]) w2 (by simp) ho2.rd ?_).mono ?_
  · have := HN.out; rw [List.length_append, List.length_singleton]; omega
  rintro e w3 ⟨rfl, hb3⟩
  rw [W2.out]
  have bw3 : Below w.heap.size w w3 := bw2.trans (hb3.mono z2)
  have z3 := bw3.size
  clear r1 r2 ho2 hb2 hb3 bw1 bw2
  go_wp2_with fail
  obtain ⟨V, hV⟩ : ∃ V, w3.alloc (.cells #[.int .u64 (u : Int), .int .u64 (v : Int)] 36) = V := ⟨_, rfl⟩
  have sv : V.heap.size = w3.heap.size + 1 := by subst hV; simp
  have ev : V.heap[w3.heap.size]? = some (.cells #[.int .u64 (u : Int), .int .u64 (v : Int)] 36 (0, 0)) := by subst hV; exact heap_alloc_new w3 _
  have bv : Below w.heap.size w V := by subst hV; exact bw3.alloc z3 _
  rw [hV, ← sv]
  clear hV
  obtain ⟨W1, hW1⟩ : ∃ W1, V.alloc (.cells #[.int .u8 (x3.toNat : Int)] 5) = W1 := ⟨_, rfl⟩
  have s1 : W1.heap.size = V.heap.size + 1 := by subst hW1; simp
  have r1 : Rd W1 W1.heap.size (some ⟨V.heap.size, 0, none⟩) [x3] := by rw [s1]; subst hW1; exact Rd.lit V [x3] _ (Nat.lt_succ_self _)
  have r2 : Rd W1 W1.heap.size A1 bs1 := by rw [s1]; subst hW1; exact (((rd1.below bv).mono (by omega)).alloc (Nat.le_refl _) _).mono (by omega)
  have bw1 : Below w.heap.size w W1 := by subst hW1; exact bv.alloc (by omega) _
  have ev1 : W1.heap[w3.heap.size]? = some (.cells #[.int .u64 (u : Int), .int .u64 (v : Int)] 36 (0, 0)) := by subst hW1; rw [heap_alloc_old _ _ (by omega)]; exact ev
  rw [hW1, ← s1]
  clear hW1
  refine (joined2 _ _ n c1 1 1 bs1 [x3] W1 HN.out rfl r2 r1 ?_).mono ?_
  · have := HN.out; simp only [List.length_singleton]; omega
  rintro e w4 ⟨g4, d4, rfl, ho4, hb4, hs4⟩
  have bw4 : Below w.heap.size w w4 := bw1.trans (hb4.mono (by omega))
  have z4 := bw4.size
  go_wp2_with fail
  refine (fnv_any k hk _ _ _ (bs1 ++ [x3]) w4 (by simp) ho4.rd ?_).mono ?_
  · have := HN.out; rw [List.length_append, List.length_singleton]; omega
  rintro e w5 ⟨rfl, hb5⟩
  rw [W3.out]
  have bw5 : Below w.heap.size w w5 := bw4.trans (hb5.mono z4)
  have z5 := bw5.size
  have zz := hb5.size
  have ev5 : w5.heap[w3.heap.size]? = some (.cells #[.int .u64 (u : Int), .int .u64 (v : Int)] 36 (0, 0)) := by rw [hb5.block _ (by omega), hb4.block _ (by omega)]; exact ev1
  have c0 : w5.cell? ⟨w3.heap.size, 0, none⟩ = some (.int .u64 (u : Int)) := by rw [cell_of_row w5 _ 0 _ _ _ ev5]; rfl
  have c1 : w5.cell? ⟨w3.heap.size, 1, none⟩ = some (.int .u64 (v : Int)) := by rw [cell_of_row w5 _ 1 _ _ _ ev5]; rfl
  have l5 : w3.heap.size < w5.heap.size := by omega
  clear r1 r2 ho4 hb4 hb5 bw1 bw4 bw3 ev ev1 ev5
  go_wp2_with fail
  go_ret
  exact ⟨rfl, bw5.alloc z5 _⟩

end Go.Proofs.Ytaplmdbcjckbkaa

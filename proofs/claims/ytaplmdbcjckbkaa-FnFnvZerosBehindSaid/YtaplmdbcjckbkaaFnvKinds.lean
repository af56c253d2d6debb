/-
  FnFnvKinds: FNV-1a of a byte 0 and data behind it is the prime times FNV-1 of the data, for every width and every data. No condition.
-/
import Derived.Test.YtaplmdbcjckbkaaFnvS
import Derived.Test.YtaplmdbcjckbkaaJoined
import Derived.Deep.RegionHeld3
namespace Go.Proofs.Ytaplmdbcjckbkaa
open Go.RowKit
set_option linter.unusedVariables false

theorem Fnv.kinds_run {k : Nat} (hk : k % 2 = 0) (hp : Fnv.prime (k + 1) = Fnv.prime k) (hm : Fnv.md (k + 1) = Fnv.md k) (h : Nat) (bs : List UInt8) :
    Fnv.run (k + 1) (h * Fnv.prime k % Fnv.md k) bs = Fnv.run k h bs * Fnv.prime k % Fnv.md k := by
  induction bs generalizing h with
  | nil => rfl
  | cons x r ih =>
    have e1 : Fnv.step (k + 1) (h * Fnv.prime k % Fnv.md k) x = Fnv.step k h x * Fnv.prime k % Fnv.md k := by
      unfold Fnv.step
      rw [if_pos (by omega), if_neg (by omega), hp, hm]
    show Fnv.run (k + 1) (Fnv.step (k + 1) _ x) r = Fnv.run k (Fnv.step k h x) r * _ % _
    rw [e1, ih]

theorem Fnv.kinds {j : Nat} (hj : j < 3) (bs : List UInt8) : Fnv.sum (2 * j + 1) ([0] ++ bs) = Fnv.sum (2 * j) bs * Fnv.prime (2 * j) % Fnv.md (2 * j) := by
  have hp : Fnv.prime (2 * j + 1) = Fnv.prime (2 * j) := by
    rcases (by omega : j = 0 ∨ j = 1 ∨ j = 2) with rfl | rfl | rfl <;> rfl
  have hm : Fnv.md (2 * j + 1) = Fnv.md (2 * j) := by
    rcases (by omega : j = 0 ∨ j = 1 ∨ j = 2) with rfl | rfl | rfl <;> rfl
  have ho : Fnv.offset (2 * j + 1) = Fnv.offset (2 * j) := by
    rcases (by omega : j = 0 ∨ j = 1 ∨ j = 2) with rfl | rfl | rfl <;> rfl
  show Fnv.run (2 * j + 1) (Fnv.step (2 * j + 1) (Fnv.offset (2 * j + 1)) 0) bs = _
  rw [show Fnv.step (2 * j + 1) (Fnv.offset (2 * j + 1)) 0 = Fnv.offset (2 * j) * Fnv.prime (2 * j) % Fnv.md (2 * j) by
    unfold Fnv.step
    rw [if_pos (by omega), hp, hm, ho, show (0 : UInt8).toNat = 0 from rfl, Nat.xor_zero]]
  exact Fnv.kinds_run (by omega) hp hm _ _

/-- what a region with calls keeps: the blocks below B as they were in w -/
structure Kp (B : Nat) (w w' : World) : Prop where
  bel : Below B w w'
  le : B ≤ w'.heap.size
theorem Kp.step {B : Nat} {w w1 w2 : World} (hb : Below w1.heap.size w1 w2) (h : Kp B w w1) : Kp B w w2 := ⟨h.bel.trans (hb.mono h.le), Nat.le_trans h.le hb.size⟩
theorem Kp.drew {B : Nat} {w w1 : World} (h : Kp B w w1) : Kp B w w1.drew := ⟨h.bel.trans ((Below.refl _ _).drew), h.le⟩
theorem Kp.cell {B : Nat} {w w1 : World} (h : Kp B w w1) {p : Addr} (hp : p.block < B) {v : Value} (hv : w.cell? p = some v) : w1.cell? p = some v := (h.bel.cell hp).trans hv

theorem Kp.four {B : Nat} {w w1 : World} {p1 p2 p3 p4 : Addr} {v1 v2 v3 v4 : Value} (c1 : w.cell? p1 = some v1) (c2 : w.cell? p2 = some v2) (c3 : w.cell? p3 = some v3) (c4 : w.cell? p4 = some v4)
    (l1 : p1.block < B) (l2 : p2.block < B) (l3 : p3.block < B) (l4 : p4.block < B) (h : Kp B w w1) : (w1.cell? p1 = some v1 ∧ w1.cell? p2 = some v2 ∧ w1.cell? p3 = some v3 ∧ w1.cell? p4 = some v4) ∧ Kp B w w1 :=
  ⟨⟨h.cell l1 c1, h.cell l2 c2, h.cell l3 c3, h.cell l4 c4⟩, h⟩
theorem Kp.four_step {B : Nat} {w w1 w2 : World} {p1 p2 p3 p4 : Addr} {v1 v2 v3 v4 : Value} (l1 : p1.block < B) (l2 : p2.block < B) (l3 : p3.block < B) (l4 : p4.block < B) (hb : Below w1.heap.size w1 w2)
    (h : (w1.cell? p1 = some v1 ∧ w1.cell? p2 = some v2 ∧ w1.cell? p3 = some v3 ∧ w1.cell? p4 = some v4) ∧ Kp B w w1) :
    (w2.cell? p1 = some v1 ∧ w2.cell? p2 = some v2 ∧ w2.cell? p3 = some v3 ∧ w2.cell? p4 = some v4) ∧ Kp B w w2 := by
  obtain ⟨⟨a, b, c, d⟩, k⟩ := h
  exact ⟨⟨(hb.cell (Nat.lt_of_lt_of_le l1 k.le)).trans a, (hb.cell (Nat.lt_of_lt_of_le l2 k.le)).trans b, (hb.cell (Nat.lt_of_lt_of_le l3 k.le)).trans c, (hb.cell (Nat.lt_of_lt_of_le l4 k.le)).trans d⟩, Kp.step hb k⟩

set_option maxRecDepth 100000 in
set_option maxHeartbeats 4000000 in
theorem fnvKinds_walk (a0 : Int) (A1 : Option Addr) (c1 : Nat) (bs1 : List UInt8) (w : World) (h0 : -9223372036854775808 ≤ a0 ∧ a0 ≤ 9223372036854775807) (rd1 : Rd w w.heap.size A1 bs1) (lc1 : bs1.length ≤ c1) (lm1 : c1 ≤ 140737488351232) :
    Calls Try.prog 14 #[.int .i64 a0, .slice A1 bs1.length c1] w fun e w' => e = .returned (.bool true) ∧ Below w.heap.size w w' := by
  obtain ⟨n, hn⟩ : ∃ n, n = bs1.length := ⟨_, rfl⟩
  rw [← hn] at lc1 ⊢
  have HN := Lib.hid hn
  clear hn
  by_cases hr0 : a0 < 0
  · have t0 : decide (a0 < 0) = true := decide_eq_true hr0
    go_enter Try.func14, Try.ntmps14
    go_wp2
    go_ret
    exact ⟨rfl, Below.refl _ _⟩
  by_cases hr2 : a0 > 2
  · have t0 : decide (a0 < 0) = false := decide_eq_false hr0
    have t2 : decide (a0 > 2) = true := decide_eq_true hr2
    go_enter Try.func14, Try.ntmps14
    go_wp2
    go_ret
    exact ⟨rfl, Below.refl _ _⟩
  obtain ⟨j, rfl, hj⟩ : ∃ j : Nat, a0 = (j : Int) ∧ j < 3 := ⟨a0.toNat, by omega, by omega⟩
  have t0 : decide ((j : Int) < 0) = false := decide_eq_false hr0
  have t2 : decide ((j : Int) > 2) = false := decide_eq_false hr2
  have hk : 2 * j < 6 := by omega
  have hk1 : 2 * j + 1 < 6 := by omega
  have q1 := Fnv.kinds hj bs1
  have o0 : IntKind.i64.wrap (2 * (j : Int)) = ((2 * j : Nat) : Int) := by rw [IntKind.wrap_i64]; omega
  obtain ⟨k, ek⟩ : ∃ k, k = 2 * j := ⟨_, rfl⟩
  rw [← ek] at hk hk1 o0 q1
  have o1 : IntKind.i64.wrap ((k : Int) + 1) = ((k + 1 : Nat) : Int) := by rw [IntKind.wrap_i64]; omega
  obtain ⟨k1, ek1⟩ : ∃ k1, k1 = k + 1 := ⟨_, rfl⟩
  rw [← ek1] at hk1 o1 q1
  clear ek ek1 hr0 hr2 h0
  have lS := Fnv.sum_lt k bs1 hk
  have lM := Nat.le_of_dvd (by decide) (md_dvd hk)
  have lP : Fnv.prime k < 340282366920938463463374607431768211456 := by rcases kinds6 hk with rfl | rfl | rfl | rfl | rfl | rfl <;> simp [Fnv.prime]
  obtain ⟨S, eS⟩ : ∃ S, S = Fnv.sum k bs1 := ⟨_, rfl⟩
  rw [← eS] at q1 lS
  obtain ⟨u, eu⟩ : ∃ u, u = ((S / 18446744073709551616 : Nat) : Int) := ⟨_, rfl⟩
  obtain ⟨v, ev⟩ : ∃ v, v = ((S % 18446744073709551616 : Nat) : Int) := ⟨_, rfl⟩
  have W1 : Hid (wv (Fnv.sum k bs1) = .agg #[.int .u64 u, .int .u64 v]) := by show _ = _; rw [← eS, eu, ev, wv]
  have W1' : Hid (.agg #[.int .u64 u, .int .u64 v] = wv S) := by show _ = _; rw [eu, ev, wv]
  obtain ⟨T, eT⟩ : ∃ T, T = S * Fnv.prime k % Fnv.md k := ⟨_, rfl⟩
  rw [← eT] at q1
  obtain ⟨u2, eu2⟩ : ∃ u, u = ((T / 18446744073709551616 : Nat) : Int) := ⟨_, rfl⟩
  obtain ⟨v2, ev2⟩ : ∃ v, v = ((T % 18446744073709551616 : Nat) : Int) := ⟨_, rfl⟩
  have W2 : Hid (wv (Fnv.sum k1 ([0] ++ bs1)) = .agg #[.int .u64 u2, .int .u64 v2]) := by show _ = _; rw [q1, eu2, ev2, wv]
  have W3 : Hid (wv (S * Fnv.prime k % Fnv.md k) = .agg #[.int .u64 u2, .int .u64 v2]) := by show _ = _; rw [← eT, eu2, ev2, wv]
  have o4 : (u2 == u2) = true := by simp
  have o5 : (v2 == v2) = true := by simp
  have lS' : S < 340282366920938463463374607431768211456 := Nat.lt_of_lt_of_le lS lM
  clear q1 eS eu ev eT eu2 ev2 lS lM
  go_enter Try.func14, Try.ntmps14
  go_wp2_with fail
  refine (fnv_any k hk A1 n c1 bs1 w HN.out rd1 (by have := HN.out; omega)).mono ?_
  rintro e w1 ⟨rfl, hb1⟩
  rw [W1.out]
  have z1 := hb1.size
  go_wp2_with fail
  obtain ⟨V, hV⟩ : ∃ V, w1.alloc (.cells #[.int .u64 u, .int .u64 v] 36) = V := ⟨_, rfl⟩
  have sv : V.heap.size = w1.heap.size + 1 := by subst hV; simp
  have ev : V.heap[w1.heap.size]? = some (.cells #[.int .u64 u, .int .u64 v] 36 (0, 0)) := by subst hV; exact heap_alloc_new w1 _
  have bv : Below w.heap.size w V := by subst hV; exact hb1.alloc z1 _
  rw [hV, ← sv]
  clear hV
  obtain ⟨W1, hW1⟩ : ∃ W1, V.alloc (.cells #[.int .u8 0] 5) = W1 := ⟨_, rfl⟩
  have s1 : W1.heap.size = V.heap.size + 1 := by subst hW1; simp
  have r1 : Rd W1 W1.heap.size (some ⟨V.heap.size, 0, none⟩) [0] := by rw [s1]; subst hW1; exact Rd.lit V [0] _ (Nat.lt_succ_self _)
  have r2 : Rd W1 W1.heap.size A1 bs1 := by rw [s1]; subst hW1; exact (((rd1.below bv).mono (by omega)).alloc (Nat.le_refl _) _).mono (by omega)
  have bw1 : Below w.heap.size w W1 := by subst hW1; exact bv.alloc (by omega) _
  have ev1 : W1.heap[w1.heap.size]? = some (.cells #[.int .u64 u, .int .u64 v] 36 (0, 0)) := by subst hW1; rw [heap_alloc_old _ _ (by omega)]; exact ev
  rw [hW1, ← s1]
  clear hW1
  refine (joined2 _ _ 1 1 n c1 [0] bs1 W1 rfl HN.out r1 r2 ?_).mono ?_
  · have := HN.out; simp only [List.length_singleton]; omega
  rintro e w4 ⟨g4, d4, rfl, ho4, hb4, hs4⟩
  have bw4 : Below w.heap.size w w4 := bw1.trans (hb4.mono (by omega))
  have z4 := bw4.size
  go_wp2_with fail
  refine (fnv_any k1 hk1 _ _ _ ([0] ++ bs1) w4 (by simp) ho4.rd ?_).mono ?_
  · have := HN.out; rw [List.length_append, List.length_singleton]; omega
  rintro e w5 ⟨rfl, hb5⟩
  rw [W2.out]
  have bw5 : Below w.heap.size w w5 := bw4.trans (hb5.mono z4)
  have z5 := bw5.size
  have zz := hb5.size
  have ev5 : w5.heap[w1.heap.size]? = some (.cells #[.int .u64 u, .int .u64 v] 36 (0, 0)) := by rw [hb5.block _ (by omega), hb4.block _ (by omega)]; exact ev1
  have l5 : w1.heap.size < w5.heap.size := by omega
  clear r1 r2 ho4 hb4 hb5 bw1 bw4 ev ev1
  go_wp2_with fail
  obtain ⟨V6, hV6⟩ : ∃ V, w5.alloc (.cells #[.int .u64 u2, .int .u64 v2] 36) = V := ⟨_, rfl⟩
  have s6 : V6.heap.size = w5.heap.size + 1 := by subst hV6; simp
  have e6 : V6.heap[w5.heap.size]? = some (.cells #[.int .u64 u2, .int .u64 v2] 36 (0, 0)) := by subst hV6; exact heap_alloc_new w5 _
  have e5 : V6.heap[w1.heap.size]? = some (.cells #[.int .u64 u, .int .u64 v] 36 (0, 0)) := by subst hV6; rw [heap_alloc_old _ _ (by omega)]; exact ev5
  have b6 : Below w.heap.size w V6 := by subst hV6; exact bw5.alloc z5 _
  rw [hV6]
  clear hV6
  have c50 : V6.cell? ⟨w1.heap.size, 0, none⟩ = some (.int .u64 u) := by rw [cell_of_row V6 _ 0 _ _ _ e5]; rfl
  have c51 : V6.cell? ⟨w1.heap.size, 1, none⟩ = some (.int .u64 v) := by rw [cell_of_row V6 _ 1 _ _ _ e5]; rfl
  have c60 : V6.cell? ⟨w5.heap.size, 0, none⟩ = some (.int .u64 u2) := by rw [cell_of_row V6 _ 0 _ _ _ e6]; rfl
  have c61 : V6.cell? ⟨w5.heap.size, 1, none⟩ = some (.int .u64 v2) := by rw [cell_of_row V6 _ 1 _ _ _ e6]; rfl
  have keepS : Hid (∀ w1' w2' : World, Below w1'.heap.size w1' w2' → Kp V6.heap.size V6 w1' → Kp V6.heap.size V6 w2') := fun _ _ hb h => Kp.step hb h
  have start : Kp V6.heap.size V6 V6.drew := ⟨(Below.refl _ _).drew, Nat.le_refl _⟩
  have lb1 : w1.heap.size < V6.heap.size := by omega
  have lb5 : w5.heap.size < V6.heap.size := by omega
  obtain ⟨PP, ePP⟩ : ∃ P : Value, P = wv (Fnv.prime k) := ⟨_, rfl⟩
  have HP : Hid (∀ w' : World, Calls Try.prog 24 #[.int .i64 (k : Int)] w' fun e w'' => e = .returned PP ∧ Below w'.heap.size w' w'') := fun w' => by rw [ePP]; exact prime_any k hk w'
  have HT : Hid (∀ w' : World, Calls Try.prog 23 #[.int .i64 (k : Int), .agg #[.int .u64 u, .int .u64 v], PP] w' fun e w'' => e = .returned (.agg #[.int .u64 u2, .int .u64 v2]) ∧ Below w'.heap.size w' w'') := fun w' => by
    rw [ePP, W1'.out, ← W3.out]; exact times_any k hk S _ lS' lP w'
  clear ePP e5 e6 ev5 bw5 bv hb1 s6 sv s1 zz z5 z4 hs4 l5 z1
  go_region_held3 (fun w' => (w'.cell? ⟨w1.heap.size, 0, none⟩ = some (.int .u64 u) ∧ w'.cell? ⟨w1.heap.size, 1, none⟩ = some (.int .u64 v) ∧ w'.cell? ⟨w5.heap.size, 0, none⟩ = some (.int .u64 u2) ∧ w'.cell? ⟨w5.heap.size, 1, none⟩ = some (.int .u64 v2)) ∧ Kp V6.heap.size V6 w')
    (first | exact ⟨⟨c50, c51, c60, c61⟩, start⟩ | (refine Kp.four c50 c51 c60 c61 lb1 lb1 lb5 lb5 ?_; first | exact start | (refine Kp.step ?_ start; assumption)) | (refine Kp.four_step (w1 := ?ww) lb1 lb1 lb5 lb5 ?hhb ?hhs; (case hhb => assumption); (case hhs => assumption)))
    (first | (go_at_call 24; refine (HP.out _).mono ?_; rintro e w' ⟨rfl, hb⟩) | (go_at_call 23; refine (HT.out _).mono ?_; rintro e w' ⟨rfl, hb⟩))
  have K : (w'.cell? ⟨w1.heap.size, 0, none⟩ = some (.int .u64 u) ∧ w'.cell? ⟨w1.heap.size, 1, none⟩ = some (.int .u64 v) ∧ w'.cell? ⟨w5.heap.size, 0, none⟩ = some (.int .u64 u2) ∧ w'.cell? ⟨w5.heap.size, 1, none⟩ = some (.int .u64 v2)) ∧ Kp V6.heap.size V6 w' := by assumption
  have bk : Below w.heap.size w w' := b6.trans (K.2.bel.mono b6.size)
  clear K
  go_wp2_with fail
  go_ret
  exact ⟨rfl, bk⟩

end Go.Proofs.Ytaplmdbcjckbkaa

/-
  FnFnvZerosBehind: n bytes 0 behind data multiply the sum of FNV by the prime to the power of n, for every kind, every data and every n in 0 .. 65536. No condition.
-/
import Derived.Test.YtaplmdbcjckbkaaFnvZeros
namespace Go.Proofs.Ytaplmdbcjckbkaa
open Go.RowKit
set_option linter.unusedVariables false

set_option maxRecDepth 100000 in
set_option maxHeartbeats 4000000 in
theorem fnvZerosBehind_walk (a0 : Int) (A1 : Option Addr) (c1 : Nat) (bs1 : List UInt8) (a2 : Int) (w : World) (h0 : -9223372036854775808 ≤ a0 ∧ a0 ≤ 9223372036854775807) (rd1 : Rd w w.heap.size A1 bs1) (lc1 : bs1.length ≤ c1) (lm1 : c1 ≤ 140737488351232) (h2 : -9223372036854775808 ≤ a2 ∧ a2 ≤ 9223372036854775807) :
    Calls Try.prog 16 #[.int .i64 a0, .slice A1 bs1.length c1, .int .i64 a2] w fun e w' => e = .returned (.bool true) ∧ Below w.heap.size w w' := by
  obtain ⟨m, hm⟩ : ∃ m, m = bs1.length := ⟨_, rfl⟩
  rw [← hm] at lc1 ⊢
  have HM := Lib.hid hm
  clear hm
  by_cases hr : 0 ≤ a0 ∧ a0 ≤ 5
  case neg =>
    have hd : decide (0 ≤ a0 ∧ a0 ≤ 5) = false := decide_eq_false hr
    go_enter Try.func16, Try.ntmps16
    go_wp2_with fail
    refine (isFnv_any _ w).mono ?_
    rintro e w1 ⟨rfl, rfl⟩
    rw [hd]
    go_wp2
    go_ret
    exact ⟨rfl, Below.refl _ _⟩
  case pos =>
  have hd : decide (0 ≤ a0 ∧ a0 ≤ 5) = true := decide_eq_true hr
  by_cases hr0 : a2 < 0
  · have t0 : decide (a2 < 0) = true := decide_eq_true hr0
    go_enter Try.func16, Try.ntmps16
    go_wp2_with fail
    refine (isFnv_any _ w).mono ?_
    rintro e w1 ⟨rfl, rfl⟩
    rw [hd]
    go_wp2
    go_ret
    exact ⟨rfl, Below.refl _ _⟩
  by_cases hr2 : a2 > 65536
  · have t0 : decide (a2 < 0) = false := decide_eq_false hr0
    have t2 : decide (a2 > 65536) = true := decide_eq_true hr2
    go_enter Try.func16, Try.ntmps16
    go_wp2_with fail
    refine (isFnv_any _ w).mono ?_
    rintro e w1 ⟨rfl, rfl⟩
    rw [hd]
    go_wp2
    go_ret
    exact ⟨rfl, Below.refl _ _⟩
  obtain ⟨k, rfl, hk⟩ : ∃ k : Nat, a0 = (k : Int) ∧ k < 6 := ⟨a0.toNat, by omega, by omega⟩
  obtain ⟨n, rfl, hn⟩ : ∃ n : Nat, a2 = (n : Int) ∧ n ≤ 65536 := ⟨a2.toNat, by omega, by omega⟩
  have t0 : decide ((n : Int) < 0) = false := decide_eq_false hr0
  have t2 : decide ((n : Int) > 65536) = false := decide_eq_false hr2
  have hmk := run_make_row' (P := Try.prog) 22 5 (.int .u8 0) 1 Try.underlying22 info5 rfl .i64 .i64 n (by omega) (by omega)
  have lM := Nat.le_of_dvd (by decide) (md_dvd hk)
  have hz := Fnv.run_zeros k (Fnv.sum k bs1) n (Fnv.sum_lt k bs1 hk)
  rw [← Fnv.sum_append] at hz
  obtain ⟨u, v, hw⟩ := wide_cells (Fnv.sum k bs1)
  obtain ⟨u2, v2, hw2⟩ := wide_cells (Fnv.sum k (bs1 ++ List.replicate n 0))
  have HW := Lib.hid hw
  have HW2 := Lib.hid hw2
  obtain ⟨PP, ePP⟩ : ∃ P : Value, P = wv (Fnv.prime k ^ n % Fnv.md k) := ⟨_, rfl⟩
  have HP : Hid (∀ w' : World, Calls Try.prog 26 #[.int .i64 (k : Int), .int .i64 (n : Int)] w' fun e w'' => e = .returned PP ∧ Below w'.heap.size w' w'') := fun w' => by rw [ePP]; exact power_any k hk n hn w'
  have HT : Hid (∀ w' : World, Calls Try.prog 23 #[.int .i64 (k : Int), .agg #[.int .u64 u, .int .u64 v], PP] w' fun e w'' => e = .returned (.agg #[.int .u64 u2, .int .u64 v2]) ∧ Below w'.heap.size w' w'') := fun w' => by
    have h := times_any k hk (Fnv.sum k bs1) (Fnv.prime k ^ n % Fnv.md k) (Nat.lt_of_lt_of_le (Fnv.sum_lt k bs1 hk) lM) (Nat.lt_of_lt_of_le (Nat.mod_lt _ (Fnv.md_pos k)) lM) w'
    rw [← hz] at h
    rw [ePP, ← hw, ← hw2]
    exact h
  have o4 : (u2 == u2) = true := by simp
  have o5 : (v2 == v2) = true := by simp
  clear hz hw hw2 ePP lM h0 h2 hr hr0 hr2
  go_enter Try.func16, Try.ntmps16
  go_wp2_with fail
  refine (isFnv_any _ w).mono ?_
  rintro e w0 ⟨rfl, rfl⟩
  rw [hd]
  go_wp2_with fail
  refine (fnv_any k hk A1 m c1 bs1 w0 HM.out rd1 (by have := HM.out; omega)).mono ?_
  rintro e w1 ⟨rfl, hb1⟩
  rw [HW.out]
  have z1 := hb1.size
  go_wp2_with fail
  obtain ⟨V, hV⟩ : ∃ V, w1.alloc (.cells #[.int .u64 u, .int .u64 v] 36) = V := ⟨_, rfl⟩
  have sv : V.heap.size = w1.heap.size + 1 := by subst hV; simp
  have ev : V.heap[w1.heap.size]? = some (.cells #[.int .u64 u, .int .u64 v] 36 (0, 0)) := by subst hV; exact heap_alloc_new w1 _
  have bv : Below w0.heap.size w0 V := by subst hV; exact hb1.alloc z1 _
  rw [hV, ← sv]
  clear hV
  obtain ⟨W1, hW1⟩ : ∃ W1, V.alloc (.cells (madeCells #[Value.int .u8 0] n) 5) = W1 := ⟨_, rfl⟩
  have s1 : W1.heap.size = V.heap.size + 1 := by subst hW1; simp
  have r1 : Rd W1 W1.heap.size (some ⟨V.heap.size, 0, none⟩) (List.replicate n 0) := by rw [s1]; subst hW1; exact Rd.zeros V n _ (Nat.lt_succ_self _)
  have r2 : Rd W1 W1.heap.size A1 bs1 := by rw [s1]; subst hW1; exact (((rd1.below bv).mono (by omega)).alloc (Nat.le_refl _) _).mono (by omega)
  have bw1 : Below w0.heap.size w0 W1 := by subst hW1; exact bv.alloc (by omega) _
  have ev1 : W1.heap[w1.heap.size]? = some (.cells #[.int .u64 u, .int .u64 v] 36 (0, 0)) := by subst hW1; rw [heap_alloc_old _ _ (by omega)]; exact ev
  rw [hW1, ← s1]
  clear hW1
  refine (joined2 _ _ m c1 n n bs1 (List.replicate n 0) W1 HM.out (by simp) r2 r1 ?_).mono ?_
  · have := HM.out; simp only [List.length_replicate]; omega
  rintro e w4 ⟨g4, d4, rfl, ho4, hb4, hs4⟩
  have bw4 : Below w0.heap.size w0 w4 := bw1.trans (hb4.mono (by omega))
  have z4 := bw4.size
  clear hmk
  go_wp2_with fail
  refine (fnv_any k hk _ _ _ (bs1 ++ List.replicate n 0) w4 (by simp) ho4.rd ?_).mono ?_
  · have := HM.out; rw [List.length_append, List.length_replicate]; omega
  rintro e w5 ⟨rfl, hb5⟩
  rw [HW2.out]
  have bw5 : Below w0.heap.size w0 w5 := bw4.trans (hb5.mono z4)
  have z5 := bw5.size
  have zz := hb5.size
  have ev5 : w5.heap[w1.heap.size]? = some (.cells #[.int .u64 u, .int .u64 v] 36 (0, 0)) := by rw [hb5.block _ (by omega), hb4.block _ (by omega)]; exact ev1
  have l5 : w1.heap.size < w5.heap.size := by omega
  clear r1 r2 ho4 hb4 hb5 bw1 bw4 ev ev1
  go_wp2_with fail
  obtain ⟨V6, hV6⟩ : ∃ V, w5.alloc (.cells #[.int .u64 u2, .int .u64 v2] 36) = V := ⟨_, rfl⟩
  have s6 : V6.heap.size = w5.heap.size + 1 := by subst hV6; simp
  have e6 : V6.heap[w5.heap.size]? = some (.cells #[.int .u64 u2, .int .u64 v2] 36 (0, 0)) := by subst hV6; exact heap_alloc_new w5 _
  have e5 : V6.heap[w1.heap.size]? = some (.cells #[.int .u64 u, .int .u64 v] 36 (0, 0)) := by subst hV6; rw [heap_alloc_old _ _ (by omega)]; exact ev5
  have b6 : Below w0.heap.size w0 V6 := by subst hV6; exact bw5.alloc z5 _
  rw [hV6]
  clear hV6
  have c50 : V6.cell? ⟨w1.heap.size, 0, none⟩ = some (.int .u64 u) := by rw [cell_of_row V6 _ 0 _ _ _ e5]; rfl
  have c51 : V6.cell? ⟨w1.heap.size, 1, none⟩ = some (.int .u64 v) := by rw [cell_of_row V6 _ 1 _ _ _ e5]; rfl
  have c60 : V6.cell? ⟨w5.heap.size, 0, none⟩ = some (.int .u64 u2) := by rw [cell_of_row V6 _ 0 _ _ _ e6]; rfl
  have c61 : V6.cell? ⟨w5.heap.size, 1, none⟩ = some (.int .u64 v2) := by rw [cell_of_row V6 _ 1 _ _ _ e6]; rfl
  have keepS_ : Hid (∀ w1' w2' : World, Below w1'.heap.size w1' w2' → Kp V6.heap.size V6 w1' → Kp V6.heap.size V6 w2') := fun _ _ hb h => Kp.step hb h
  have start : Kp V6.heap.size V6 V6.drew := ⟨(Below.refl _ _).drew, Nat.le_refl _⟩
  have lb1 : w1.heap.size < V6.heap.size := by omega
  have lb5 : w5.heap.size < V6.heap.size := by omega
  clear e5 e6 ev5 bw5 bv hb1 s6 sv s1 zz z5 z4 hs4 l5 z1 keepS_
  go_region_held3 (fun w' => (w'.cell? ⟨w1.heap.size, 0, none⟩ = some (.int .u64 u) ∧ w'.cell? ⟨w1.heap.size, 1, none⟩ = some (.int .u64 v) ∧ w'.cell? ⟨w5.heap.size, 0, none⟩ = some (.int .u64 u2) ∧ w'.cell? ⟨w5.heap.size, 1, none⟩ = some (.int .u64 v2)) ∧ Kp V6.heap.size V6 w')
    (first | exact ⟨⟨c50, c51, c60, c61⟩, start⟩ | (refine Kp.four c50 c51 c60 c61 lb1 lb1 lb5 lb5 ?_; first | exact start | (refine Kp.step ?_ start; assumption)) | exact Kp.four_step lb1 lb1 lb5 lb5 (by assumption) (by assumption))
    (first | (go_at_call 26; refine (HP.out _).mono ?_; rintro e w' ⟨rfl, hb⟩) | (go_at_call 23; refine (HT.out _).mono ?_; rintro e w' ⟨rfl, hb⟩))
  have K : (w'.cell? ⟨w1.heap.size, 0, none⟩ = some (.int .u64 u) ∧ w'.cell? ⟨w1.heap.size, 1, none⟩ = some (.int .u64 v) ∧ w'.cell? ⟨w5.heap.size, 0, none⟩ = some (.int .u64 u2) ∧ w'.cell? ⟨w5.heap.size, 1, none⟩ = some (.int .u64 v2)) ∧ Kp V6.heap.size V6 w' := by assumption
  have bk : Below w0.heap.size w0 w' := b6.trans (K.2.bel.mono b6.size)
  clear K
  go_wp2_with fail
  go_ret
  exact ⟨rfl, bk⟩

end Go.Proofs.Ytaplmdbcjckbkaa

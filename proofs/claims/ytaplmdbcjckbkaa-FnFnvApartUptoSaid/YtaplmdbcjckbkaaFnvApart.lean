/-
  FnFnvApart: behind the same bytes, sums of FNV are equal just where they were equal before, for every kind and all lists of bytes. Condition: the lengths' bounds.
-/
import Derived.Test.YtaplmdbcjckbkaaFnvS
import Derived.Test.YtaplmdbcjckbkaaFnvInv
import Derived.Test.YtaplmdbcjckbkaaJoined
import Derived.Test.YtaplmdbcjckbkaaPower
namespace Go.Proofs.Ytaplmdbcjckbkaa
open Go.RowKit
set_option linter.unusedVariables false

theorem wide_two (S T : Nat) : ∃ u1 v1 u2 v2 : Int, wv S = .agg #[.int .u64 u1, .int .u64 v1] ∧ wv T = .agg #[.int .u64 u2, .int .u64 v2] ∧ ((u1 == u2) && (v1 == v2)) = decide (S = T) := by
  refine ⟨_, _, _, _, rfl, rfl, ?_⟩
  by_cases h : S = T
  · subst h; simp
  · rw [decide_eq_false h, Bool.and_eq_false_iff]
    by_cases h1 : S / 18446744073709551616 = T / 18446744073709551616
    · right
      rw [beq_eq_false_iff_ne]
      intro h2
      have := Int.ofNat.inj h2
      omega
    · left
      rw [beq_eq_false_iff_ne]
      intro h2
      exact h1 (Int.ofNat.inj h2)

set_option maxRecDepth 100000 in
set_option maxHeartbeats 4000000 in
theorem fnvApart_walk (a0 : Int) (A1 : Option Addr) (c1 : Nat) (bs1 : List UInt8) (A2 : Option Addr) (c2 : Nat) (bs2 : List UInt8) (A3 : Option Addr) (c3 : Nat) (bs3 : List UInt8) (w : World) (h0 : -9223372036854775808 ≤ a0 ∧ a0 ≤ 9223372036854775807)
    (rd1 : Rd w w.heap.size A1 bs1) (lc1 : bs1.length ≤ c1) (lm1 : c1 ≤ 1048576) (rd2 : Rd w w.heap.size A2 bs2) (lc2 : bs2.length ≤ c2) (lm2 : c2 ≤ 1048576) (rd3 : Rd w w.heap.size A3 bs3) (lc3 : bs3.length ≤ c3) (lm3 : c3 ≤ 1048576) :
    Calls Try.prog 10 #[.int .i64 a0, .slice A1 bs1.length c1, .slice A2 bs2.length c2, .slice A3 bs3.length c3] w fun e w' => e = .returned (.bool true) ∧ Below w.heap.size w w' := by
  obtain ⟨n1, hn1⟩ : ∃ m, m = bs1.length := ⟨_, rfl⟩
  obtain ⟨n2, hn2⟩ : ∃ m, m = bs2.length := ⟨_, rfl⟩
  obtain ⟨n3, hn3⟩ : ∃ m, m = bs3.length := ⟨_, rfl⟩
  rw [← hn1] at lc1
  rw [← hn2] at lc2
  rw [← hn3] at lc3
  rw [← hn1, ← hn2, ← hn3]
  have H1 := Lib.hid hn1
  have H2 := Lib.hid hn2
  have H3 := Lib.hid hn3
  clear hn1 hn2 hn3
  by_cases hr : 0 ≤ a0 ∧ a0 ≤ 5
  case neg =>
    have hd : decide (0 ≤ a0 ∧ a0 ≤ 5) = false := decide_eq_false hr
    go_enter Try.func10, Try.ntmps10
    go_wp2_with fail
    refine (isFnv_any _ w).mono ?_
    rintro e w1 ⟨rfl, rfl⟩
    rw [hd]
    go_wp2
    go_ret
    exact ⟨rfl, Below.refl _ _⟩
  case pos =>
  have hd : decide (0 ≤ a0 ∧ a0 ≤ 5) = true := decide_eq_true hr
  obtain ⟨k, rfl, hk⟩ : ∃ k : Nat, a0 = (k : Int) ∧ k < 6 := ⟨a0.toNat, by omega, by omega⟩
  have hap := Fnv.apart hk bs1 bs2 bs3
  obtain ⟨u1, v1, u2, v2, w1e, w2e, q1⟩ := wide_two (Fnv.sum k bs1) (Fnv.sum k bs2)
  obtain ⟨u3, v3, u4, v4, w3e, w4e, q2⟩ := wide_two (Fnv.sum k (bs1 ++ bs3)) (Fnv.sum k (bs2 ++ bs3))
  have hq : ((u1 == u2) && (v1 == v2)) = ((u3 == u4) && (v3 == v4)) := by
    rw [q1, q2]
    by_cases h : Fnv.sum k bs1 = Fnv.sum k bs2
    · rw [decide_eq_true h, decide_eq_true (hap.1 h)]
    · rw [decide_eq_false h, decide_eq_false (fun h' => h (hap.2 h'))]
  have E1 := Lib.hid w1e
  have E2 := Lib.hid w2e
  have E3 := Lib.hid w3e
  have E4 := Lib.hid w4e
  have HQ := Lib.hid hq
  clear hap w1e w2e w3e w4e q1 q2 hq h0 hr
  go_enter Try.func10, Try.ntmps10
  go_wp2_with fail
  refine (isFnv_any _ w).mono ?_
  rintro e w0 ⟨rfl, rfl⟩
  rw [hd]
  go_wp2_with fail
  refine (fnv_any k hk A1 n1 c1 bs1 w0 H1.out rd1 (by have := H1.out; omega)).mono ?_
  rintro e w1 ⟨rfl, hb1⟩
  rw [E1.out]
  have z1 := hb1.size
  go_wp2_with fail
  obtain ⟨V, hV⟩ : ∃ V, w1.alloc (.cells #[.int .u64 u1, .int .u64 v1] 36) = V := ⟨_, rfl⟩
  have sv : V.heap.size = w1.heap.size + 1 := by subst hV; simp
  have ev : V.heap[w1.heap.size]? = some (.cells #[.int .u64 u1, .int .u64 v1] 36 (0, 0)) := by subst hV; exact heap_alloc_new w1 _
  have bv : Below w0.heap.size w0 V := by subst hV; exact hb1.alloc z1 _
  rw [hV]
  clear hV hb1
  refine (fnv_any k hk A2 n2 c2 bs2 V H2.out ((rd2.below bv).mono (by omega)) (by have := H2.out; omega)).mono ?_
  rintro e w2 ⟨rfl, hb2⟩
  rw [E2.out]
  have z2 := hb2.size
  have bw2 : Below w0.heap.size w0 w2 := bv.trans (hb2.mono (by omega))
  have ev2 : w2.heap[w1.heap.size]? = some (.cells #[.int .u64 u1, .int .u64 v1] 36 (0, 0)) := by rw [hb2.block _ (by omega)]; exact ev
  clear hb2 ev
  go_wp2_with fail
  obtain ⟨X, hX⟩ : ∃ V, w2.alloc (.cells #[.int .u64 u2, .int .u64 v2] 36) = V := ⟨_, rfl⟩
  have sx : X.heap.size = w2.heap.size + 1 := by subst hX; simp
  have f2 : X.heap[w2.heap.size]? = some (.cells #[.int .u64 u2, .int .u64 v2] 36 (0, 0)) := by subst hX; exact heap_alloc_new w2 _
  have f1 : X.heap[w1.heap.size]? = some (.cells #[.int .u64 u1, .int .u64 v1] 36 (0, 0)) := by subst hX; rw [heap_alloc_old _ _ (by omega)]; exact ev2
  have bX : Below w0.heap.size w0 X := by subst hX; exact bw2.alloc (by omega) _
  rw [hX, ← sx]
  clear hX ev2
  refine (joined2 _ _ n1 c1 n3 c3 bs1 bs3 X H1.out H3.out ((rd1.below bX).mono (by omega)) ((rd3.below bX).mono (by omega)) ?_).mono ?_
  · have := H1.out; have := H3.out; omega
  rintro e w3 ⟨g3, d3, rfl, ho3, hb3, hs3⟩
  have z3 := hb3.size
  have bw3 : Below w0.heap.size w0 w3 := bX.trans (hb3.mono (by omega))
  have m1 : w3.heap[w1.heap.size]? = some (.cells #[.int .u64 u1, .int .u64 v1] 36 (0, 0)) := by rw [hb3.block _ (by omega)]; exact f1
  have m2 : w3.heap[w2.heap.size]? = some (.cells #[.int .u64 u2, .int .u64 v2] 36 (0, 0)) := by rw [hb3.block _ (by omega)]; exact f2
  clear hb3 f1 f2
  go_wp2_with fail
  refine (fnv_any k hk _ _ _ (bs1 ++ bs3) w3 (by simp) ho3.rd ?_).mono ?_
  · have := H1.out; have := H3.out; rw [List.length_append]; omega
  rintro e w4 ⟨rfl, hb4⟩
  rw [E3.out]
  have z4 := hb4.size
  have bw4 : Below w0.heap.size w0 w4 := bw3.trans (hb4.mono (by omega))
  have k1 : w4.heap[w1.heap.size]? = some (.cells #[.int .u64 u1, .int .u64 v1] 36 (0, 0)) := by rw [hb4.block _ (by omega)]; exact m1
  have k2 : w4.heap[w2.heap.size]? = some (.cells #[.int .u64 u2, .int .u64 v2] 36 (0, 0)) := by rw [hb4.block _ (by omega)]; exact m2
  clear hb4 m1 m2 ho3
  go_wp2_with fail
  obtain ⟨Y, hY⟩ : ∃ V, w4.alloc (.cells #[.int .u64 u3, .int .u64 v3] 36) = V := ⟨_, rfl⟩
  have sy : Y.heap.size = w4.heap.size + 1 := by subst hY; simp
  have g3' : Y.heap[w4.heap.size]? = some (.cells #[.int .u64 u3, .int .u64 v3] 36 (0, 0)) := by subst hY; exact heap_alloc_new w4 _
  have g1 : Y.heap[w1.heap.size]? = some (.cells #[.int .u64 u1, .int .u64 v1] 36 (0, 0)) := by subst hY; rw [heap_alloc_old _ _ (by omega)]; exact k1
  have g2 : Y.heap[w2.heap.size]? = some (.cells #[.int .u64 u2, .int .u64 v2] 36 (0, 0)) := by subst hY; rw [heap_alloc_old _ _ (by omega)]; exact k2
  have bY : Below w0.heap.size w0 Y := by subst hY; exact bw4.alloc (by omega) _
  rw [hY, ← sy]
  clear hY k1 k2
  refine (joined2 _ _ n2 c2 n3 c3 bs2 bs3 Y H2.out H3.out ((rd2.below bY).mono (by omega)) ((rd3.below bY).mono (by omega)) ?_).mono ?_
  · have := H2.out; have := H3.out; omega
  rintro e w5 ⟨g5, d5, rfl, ho5, hb5, hs5⟩
  have z5 := hb5.size
  have bw5 : Below w0.heap.size w0 w5 := bY.trans (hb5.mono (by omega))
  go_wp2_with fail
  refine (fnv_any k hk _ _ _ (bs2 ++ bs3) w5 (by simp) ho5.rd ?_).mono ?_
  · have := H2.out; have := H3.out; rw [List.length_append]; omega
  rintro e w6 ⟨rfl, hb6⟩
  rw [E4.out]
  have z6 := hb6.size
  have bw6 : Below w0.heap.size w0 w6 := bw5.trans (hb6.mono (by omega))
  have l1 : w6.heap[w1.heap.size]? = some (.cells #[.int .u64 u1, .int .u64 v1] 36 (0, 0)) := by rw [hb6.block _ (by omega), hb5.block _ (by omega)]; exact g1
  have l2 : w6.heap[w2.heap.size]? = some (.cells #[.int .u64 u2, .int .u64 v2] 36 (0, 0)) := by rw [hb6.block _ (by omega), hb5.block _ (by omega)]; exact g2
  have l3 : w6.heap[w4.heap.size]? = some (.cells #[.int .u64 u3, .int .u64 v3] 36 (0, 0)) := by rw [hb6.block _ (by omega), hb5.block _ (by omega)]; exact g3'
  have q1 : w1.heap.size < w6.heap.size := by omega
  have q2 : w2.heap.size < w6.heap.size := by omega
  have q3 : w4.heap.size < w6.heap.size := by omega
  clear hb6 hb5 g1 g2 g3' ho5
  have bw7 := fun o => bw6.alloc bw6.size o
  go_wp2_with fail
  obtain ⟨Z, hZ⟩ : ∃ V, w6.alloc (.cells #[.int .u64 u4, .int .u64 v4] 36) = V := ⟨_, rfl⟩
  have r1 : Z.heap[w1.heap.size]? = some (.cells #[.int .u64 u1, .int .u64 v1] 36 (0, 0)) := by subst hZ; rw [heap_alloc_old _ _ q1]; exact l1
  have r2 : Z.heap[w2.heap.size]? = some (.cells #[.int .u64 u2, .int .u64 v2] 36 (0, 0)) := by subst hZ; rw [heap_alloc_old _ _ q2]; exact l2
  have r3 : Z.heap[w4.heap.size]? = some (.cells #[.int .u64 u3, .int .u64 v3] 36 (0, 0)) := by subst hZ; rw [heap_alloc_old _ _ q3]; exact l3
  have r4 : Z.heap[w6.heap.size]? = some (.cells #[.int .u64 u4, .int .u64 v4] 36 (0, 0)) := by subst hZ; exact heap_alloc_new w6 _
  have bZ : Below w0.heap.size w0 Z := by subst hZ; exact bw7 _
  rw [hZ]
  clear hZ bw7 l1 l2 l3
  have c10 : Z.cell? ⟨w1.heap.size, 0, none⟩ = some (.int .u64 u1) := by rw [cell_of_row Z _ 0 _ _ _ r1]; rfl
  have c11 : Z.cell? ⟨w1.heap.size, 1, none⟩ = some (.int .u64 v1) := by rw [cell_of_row Z _ 1 _ _ _ r1]; rfl
  have c20 : Z.cell? ⟨w2.heap.size, 0, none⟩ = some (.int .u64 u2) := by rw [cell_of_row Z _ 0 _ _ _ r2]; rfl
  have c21 : Z.cell? ⟨w2.heap.size, 1, none⟩ = some (.int .u64 v2) := by rw [cell_of_row Z _ 1 _ _ _ r2]; rfl
  have c30 : Z.cell? ⟨w4.heap.size, 0, none⟩ = some (.int .u64 u3) := by rw [cell_of_row Z _ 0 _ _ _ r3]; rfl
  have c31 : Z.cell? ⟨w4.heap.size, 1, none⟩ = some (.int .u64 v3) := by rw [cell_of_row Z _ 1 _ _ _ r3]; rfl
  have c40 : Z.cell? ⟨w6.heap.size, 0, none⟩ = some (.int .u64 u4) := by rw [cell_of_row Z _ 0 _ _ _ r4]; rfl
  have c41 : Z.cell? ⟨w6.heap.size, 1, none⟩ = some (.int .u64 v4) := by rw [cell_of_row Z _ 1 _ _ _ r4]; rfl
  clear r1 r2 r3 r4 sv sx sy z1 z2 z3 z4 z5 z6 hs3 hs5 bw2 bw3 bw4 bw5 bw6 bv bX bY q1 q2 q3
  have hq := HQ.out
  cases x1 : (u1 == u2) <;> cases x2 : (v1 == v2) <;> cases x3 : (u3 == u4) <;> cases x4 : (v3 == v4) <;> rw [x1, x2, x3, x4] at hq <;> first | (exact absurd hq (by decide)) | skip
  all_goals clear hq
  all_goals
    go_quiet (fail)
    go_wp2_with fail
    go_ret
    exact ⟨rfl, ⟨bZ.os, bZ.tape, bZ.output, bZ.size, bZ.block⟩⟩

end Go.Proofs.Ytaplmdbcjckbkaa

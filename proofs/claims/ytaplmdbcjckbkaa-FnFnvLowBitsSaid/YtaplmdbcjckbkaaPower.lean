/-
  spec.Power returns the prime to a power, modulo two to the bits of a kind. No condition but the power's bound.
-/
import Derived.Test.YtaplmdbcjckbkaaFnvS
import Derived.Deep.LoopGhost
namespace Go.Proofs.Ytaplmdbcjckbkaa
open Go.RowKit
set_option linter.unusedVariables false

theorem pw_even (m o q g : Nat) (hg : g % 2 = 0) : o * (q * q % m) ^ (g / 2) % m = o * q ^ g % m := by
  have e : q ^ g = (q * q) ^ (g / 2) := by
    have h2 : g = 2 * (g / 2) := by omega
    conv => lhs; rw [h2, Nat.pow_mul, Nat.pow_two]
  rw [e, Nat.mul_mod, ← Nat.pow_mod, ← Nat.mul_mod]
theorem pw_odd (m o q g : Nat) (hg : g % 2 = 1) : (o * q % m) * (q * q % m) ^ (g / 2) % m = o * q ^ g % m := by
  have e : q ^ g = q * (q * q) ^ (g / 2) := by
    have h2 : g = 2 * (g / 2) + 1 := by omega
    conv => lhs; rw [h2, Nat.pow_succ, Nat.pow_mul, Nat.pow_two, Nat.mul_comm]
  rw [e, Nat.mul_mod, ← Nat.pow_mod, Nat.mod_mod, ← Nat.mul_mod, Nat.mul_assoc]

theorem wide_cells (S : Nat) : ∃ u v : Int, wv S = .agg #[.int .u64 u, .int .u64 v] := ⟨_, _, rfl⟩

set_option maxRecDepth 100000 in
set_option maxHeartbeats 4000000 in
theorem power_any (k : Nat) (hk : k < 6) (N : Nat) (hN : N ≤ 65536) (w : World) :
    Calls Try.prog 26 #[.int .i64 (k : Int), .int .i64 (N : Int)] w fun e w' => e = .returned (wv (Fnv.prime k ^ N % Fnv.md k)) ∧ Below w.heap.size w w' := by
  have lM := Nat.le_of_dvd (by decide) (md_dvd hk)
  have pM := Fnv.md_pos k
  have lP : Fnv.prime k < 340282366920938463463374607431768211456 := by rcases kinds6 hk with rfl | rfl | rfl | rfl | rfl | rfl <;> simp [Fnv.prime]
  have one : 1 < Fnv.md k := by have := Fnv.byte_lt k 1; simpa using this
  obtain ⟨p0, p1, hp⟩ := wide_cells (Fnv.prime k)
  have HPr := Lib.hid hp
  clear hp
  obtain ⟨X0, hX0⟩ : ∃ X, w.alloc (.cells #[.int .u64 0, .int .u64 0] 36) = X := ⟨_, rfl⟩
  have s0 : X0.heap.size = w.heap.size + 1 := by subst hX0; simp
  have e0 : X0.heap[w.heap.size]? = some (.cells #[.int .u64 0, .int .u64 0] 36 (0, 0)) := by subst hX0; exact heap_alloc_new w _
  have b0 : Below w.heap.size w X0 := by subst hX0; exact (Below.refl _ _).alloc (Nat.le_refl _) _
  go_enter Try.func26, Try.ntmps26
  go_wp2_with fail
  refine (prime_any k hk _).mono ?_
  rintro e w1 ⟨rfl, hb1⟩
  rw [HPr.out]
  have z1 := hb1.size
  have f0 : w1.heap[w.heap.size]? = some (.cells #[.int .u64 0, .int .u64 0] 36 (0, 0)) := by rw [hb1.block _ (by omega)]; exact e0
  have bw1 : Below w.heap.size w w1 := b0.trans (hb1.mono (by omega))
  have l1 : w.heap.size < w1.heap.size := by omega
  clear hX0 e0 b0 hb1
  go_wp2_with fail
  go_loopg [1] N (fun gk v wr => ∃ (O Q : Nat) (o0 o1 q0 q1 : Int), v = .int .i64 (gk : Int) ∧ gk ≤ 65536 ∧ O < Fnv.md k ∧ Q < 340282366920938463463374607431768211456 ∧ Hid (O * Q ^ gk % Fnv.md k = Fnv.prime k ^ N % Fnv.md k) ∧
    Hid (wv O = .agg #[.int .u64 o0, .int .u64 o1]) ∧ Hid (wv Q = .agg #[.int .u64 q0, .int .u64 q1]) ∧
    Hid (wr.heap[w1.heap.size]? = some (.cells #[.int .u64 o0, .int .u64 o1] 36 (0, 0))) ∧ Hid (wr.heap[w1.heap.size + 1]? = some (.cells #[.int .u64 q0, .int .u64 q1] 36 (0, 0))) ∧
    Hid (wr.heap[w.heap.size]? = some (.cells #[.int .u64 0, .int .u64 0] 36 (0, 0))) ∧ Hid (Below w.heap.size w wr) ∧ w1.heap.size + 2 ≤ wr.heap.size)
  case atStart =>
    refine ⟨1, Fnv.prime k, 0, 1, p0, p1, rfl, hN, one, lP, ?_, rfl, HPr, ?_, ?_, ?_, ?_, ?_⟩
    · show _ = _; rw [Nat.one_mul]
    · show _ = _; exact heap_alloc2_old w1 _ _
    · show _ = _; exact heap_alloc2_new w1 _ _
    · show _ = _; rw [heap_alloc_old _ _ (by simp; omega), heap_alloc_old _ _ (by omega)]; exact f0
    · exact (bw1.alloc (by omega) _).alloc (by simp; omega) _
    · simp
  case round =>
    obtain ⟨O, Q, o0, o1, q0, q1, rfl, hg, hO, hQ, hrun, hwO, hwQ, hb5, hb6, hb4, hbel, hsz⟩ := hrel
    have c50 : wr.cell? ⟨w1.heap.size, 0, none⟩ = some (.int .u64 o0) := by rw [cell_of_row wr _ 0 _ _ _ hb5.out]; rfl
    have c51 : wr.cell? ⟨w1.heap.size, 1, none⟩ = some (.int .u64 o1) := by rw [cell_of_row wr _ 1 _ _ _ hb5.out]; rfl
    have c60 : wr.cell? ⟨w1.heap.size + 1, 0, none⟩ = some (.int .u64 q0) := by rw [cell_of_row wr _ 0 _ _ _ hb6.out]; rfl
    have c61 : wr.cell? ⟨w1.heap.size + 1, 1, none⟩ = some (.int .u64 q1) := by rw [cell_of_row wr _ 1 _ _ _ hb6.out]; rfl
    have hlr : w.heap.size < w1.heap.size := by omega
    by_cases hz : gk = 0
    · subst hz
      have hfin : wv (Fnv.prime k ^ N % Fnv.md k) = .agg #[.int .u64 o0, .int .u64 o1] := by
        have h := hrun.out
        rw [Nat.pow_zero, Nat.mul_one, Nat.mod_eq_of_lt hO] at h
        rw [← h]; exact hwO.out
      have HF := Lib.hid hfin
      have d0 : wr.cell? ⟨w.heap.size, 0, none⟩ = some (.int .u64 0) := by rw [cell_of_row wr _ 0 _ _ _ hb4.out]; rfl
      have d1 : wr.cell? ⟨w.heap.size, 1, none⟩ = some (.int .u64 0) := by rw [cell_of_row wr _ 1 _ _ _ hb4.out]; rfl
      have fz : ∀ j, wr.frozen? ⟨w.heap.size, j, none⟩ = false := fun j => frozen_of_row wr _ j _ _ hb4.out
      clear hfin
      go_wp2_with fail
      refine bodyPost_ret (v := .agg #[.int .u64 o0, .int .u64 o1]) (by simp [results, Try.results26, go_sem, d0, d1]) rfl ⟨by rw [HF.out], ?_⟩
      exact (hbel.out.setCell (p := ⟨w.heap.size, 0, none⟩) (Nat.le_refl _) _).setCell (p := ⟨w.heap.size, 1, none⟩) (Nat.le_refl _) _
    have hpos : 0 < gk := by omega
    by_cases ho : gk % 2 = 0
    · have t2 : (gk : Int) % 2 = 0 := by omega
      have hrun2 := pw_even (Fnv.md k) O Q gk ho
      rw [hrun.out] at hrun2
      have HW := hwQ.out
      clear ho
      go_wp2_with fail
      rw [← hwQ.out]
      refine (times_any k hk Q Q hQ hQ _).mono ?_
      rintro e w3 ⟨rfl, hb3⟩
      have z3 := hb3.size
      obtain ⟨Q', eQ⟩ : ∃ Q', Q' = Q * Q % Fnv.md k := ⟨_, rfl⟩
      obtain ⟨n0, n1, hn⟩ := wide_cells Q'
      have HQ' := Lib.hid hn
      rw [← eQ] at hrun2 ⊢
      rw [hn]
      have lQ' : Q' < 340282366920938463463374607431768211456 := by rw [eQ]; exact Nat.lt_of_lt_of_le (Nat.mod_lt _ pM) lM
      have HRUN := Lib.hid hrun2
      clear hrun2 hn eQ
      have g5 : Hid (w3.heap[w1.heap.size]? = some (.cells #[.int .u64 o0, .int .u64 o1] 36 (0, 0))) := by show _ = _; rw [hb3.block _ (by omega)]; exact hb5.out
      have g6 : Hid (w3.heap[w1.heap.size + 1]? = some (.cells #[.int .u64 q0, .int .u64 q1] 36 (0, 0))) := by show _ = _; rw [hb3.block _ (by omega)]; exact hb6.out
      have g4 : Hid (w3.heap[w.heap.size]? = some (.cells #[.int .u64 0, .int .u64 0] 36 (0, 0))) := by show _ = _; rw [hb3.block _ (by omega)]; exact hb4.out
      have g3 : Hid (Below w.heap.size w w3) := hbel.out.trans (hb3.mono (by omega))
      have k0 : w3.cell? ⟨w1.heap.size + 1, 0, none⟩ = some (.int .u64 q0) := by rw [cell_of_row w3 _ 0 _ _ _ g6.out]; rfl
      have k1 : w3.cell? ⟨w1.heap.size + 1, 1, none⟩ = some (.int .u64 q1) := by rw [cell_of_row w3 _ 1 _ _ _ g6.out]; rfl
      have fz : ∀ j, w3.frozen? ⟨w1.heap.size + 1, j, none⟩ = false := fun j => frozen_of_row w3 _ j _ _ g6.out
      clear hb3 t2 c60 c61 c50 c51
      go_wp2_with fail
      go_roundg (gk / 2)
      case measure => omega
      case rel =>
        refine ⟨O, Q', o0, o1, n0, n1, rfl, by omega, hO, lQ', HRUN, hwO, HQ', ?_, ?_, ?_, ?_, ?_⟩
        · show (World.setCell (World.setCell w3 _ _) _ _).heap[w1.heap.size]? = _
          rw [heap_setCell_other _ _ _ _ (by simp), heap_setCell_other _ _ _ _ (by simp)]
          exact g5.out
        · show (World.setCell (World.setCell w3 _ _) _ _).heap[w1.heap.size + 1]? = _
          rw [heap_setCell_same _ _ 1 _ _ _ (heap_setCell_same _ _ 0 _ _ _ g6.out)]
          rfl
        · show (World.setCell (World.setCell w3 _ _) _ _).heap[w.heap.size]? = _
          rw [heap_setCell_other _ _ _ _ (by simp; omega), heap_setCell_other _ _ _ _ (by simp; omega)]
          exact g4.out
        · exact (g3.out.setCell (p := ⟨w1.heap.size + 1, 0, none⟩) (by simp; omega) _).setCell (p := ⟨w1.heap.size + 1, 1, none⟩) (by simp; omega) _
        · simp; omega
    · have t2 : (gk : Int) % 2 = 1 := by omega
      have hrun2 := pw_odd (Fnv.md k) O Q gk (by omega)
      rw [hrun.out] at hrun2
      clear ho
      go_wp2_with fail
      rw [← hwQ.out, ← hwO.out]
      refine (times_any k hk O Q (Nat.lt_of_lt_of_le hO lM) hQ _).mono ?_
      rintro e w2 ⟨rfl, hb2⟩
      have z2 := hb2.size
      obtain ⟨O', eO⟩ : ∃ O', O' = O * Q % Fnv.md k := ⟨_, rfl⟩
      obtain ⟨m0, m1, hm⟩ := wide_cells O'
      have HO' := Lib.hid hm
      rw [← eO] at hrun2 ⊢
      have lO' : O' < Fnv.md k := by rw [eO]; exact Nat.mod_lt _ pM
      rw [hm, hwQ.out, hwO.out]
      clear hm eO
      have c5 : w2.heap[w1.heap.size]? = some (.cells #[.int .u64 o0, .int .u64 o1] 36 (0, 0)) := by rw [hb2.block _ (by omega)]; exact hb5.out
      have c6 : w2.heap[w1.heap.size + 1]? = some (.cells #[.int .u64 q0, .int .u64 q1] 36 (0, 0)) := by rw [hb2.block _ (by omega)]; exact hb6.out
      have c4 : w2.heap[w.heap.size]? = some (.cells #[.int .u64 0, .int .u64 0] 36 (0, 0)) := by rw [hb2.block _ (by omega)]; exact hb4.out
      have cB : Below w.heap.size w w2 := hbel.out.trans (hb2.mono (by omega))
      obtain ⟨X, hX⟩ : ∃ X, (w2.setCell ⟨w1.heap.size, 0, none⟩ (.int .u64 m0)).setCell ⟨w1.heap.size, 1, none⟩ (.int .u64 m1) = X := ⟨_, rfl⟩
      have sX : X.heap.size = w2.heap.size := by subst hX; simp
      have d5 : X.heap[w1.heap.size]? = some (.cells #[.int .u64 m0, .int .u64 m1] 36 (0, 0)) := by subst hX; rw [heap_setCell_same _ _ 1 _ _ _ (heap_setCell_same _ _ 0 _ _ _ c5)]; rfl
      have d6 : X.heap[w1.heap.size + 1]? = some (.cells #[.int .u64 q0, .int .u64 q1] 36 (0, 0)) := by subst hX; rw [heap_setCell_other _ _ _ _ (by simp), heap_setCell_other _ _ _ _ (by simp)]; exact c6
      have d4 : X.heap[w.heap.size]? = some (.cells #[.int .u64 0, .int .u64 0] 36 (0, 0)) := by subst hX; rw [heap_setCell_other _ _ _ _ (by simp; omega), heap_setCell_other _ _ _ _ (by simp; omega)]; exact c4
      have dB : Below w.heap.size w X := by subst hX; exact (cB.setCell (p := ⟨w1.heap.size, 0, none⟩) (by simp; omega) _).setCell (p := ⟨w1.heap.size, 1, none⟩) (by simp; omega) _
      have k50 : w2.cell? ⟨w1.heap.size, 0, none⟩ = some (.int .u64 o0) := by rw [cell_of_row w2 _ 0 _ _ _ c5]; rfl
      have k51 : w2.cell? ⟨w1.heap.size, 1, none⟩ = some (.int .u64 o1) := by rw [cell_of_row w2 _ 1 _ _ _ c5]; rfl
      have x60 : X.cell? ⟨w1.heap.size + 1, 0, none⟩ = some (.int .u64 q0) := by rw [cell_of_row X _ 0 _ _ _ d6]; rfl
      have x61 : X.cell? ⟨w1.heap.size + 1, 1, none⟩ = some (.int .u64 q1) := by rw [cell_of_row X _ 1 _ _ _ d6]; rfl
      have fz5 : ∀ j, w2.frozen? ⟨w1.heap.size, j, none⟩ = false := fun j => frozen_of_row w2 _ j _ _ c5
      clear c5 c6 c4 cB hb2 c50 c51 c60 c61
      go_wp2_with fail
      rw [← hwQ.out]
      refine (times_any k hk Q Q hQ hQ _).mono ?_
      rintro e w3 ⟨rfl, hb3⟩
      have z3 := hb3.size
      obtain ⟨Q', eQ⟩ : ∃ Q', Q' = Q * Q % Fnv.md k := ⟨_, rfl⟩
      obtain ⟨n0, n1, hn⟩ := wide_cells Q'
      have HQ' := Lib.hid hn
      rw [← eQ] at hrun2 ⊢
      rw [hn]
      have lQ' : Q' < 340282366920938463463374607431768211456 := by rw [eQ]; exact Nat.lt_of_lt_of_le (Nat.mod_lt _ pM) lM
      have HRUN := Lib.hid hrun2
      clear hrun2 hn eQ
      have g5 : Hid (w3.heap[w1.heap.size]? = some (.cells #[.int .u64 m0, .int .u64 m1] 36 (0, 0))) := by show _ = _; rw [hb3.block _ (by omega)]; exact d5
      have g6 : Hid (w3.heap[w1.heap.size + 1]? = some (.cells #[.int .u64 q0, .int .u64 q1] 36 (0, 0))) := by show _ = _; rw [hb3.block _ (by omega)]; exact d6
      have g4 : Hid (w3.heap[w.heap.size]? = some (.cells #[.int .u64 0, .int .u64 0] 36 (0, 0))) := by show _ = _; rw [hb3.block _ (by omega)]; exact d4
      have g3 : Hid (Below w.heap.size w w3) := dB.trans (hb3.mono (by omega))
      have k0 : w3.cell? ⟨w1.heap.size + 1, 0, none⟩ = some (.int .u64 q0) := by rw [cell_of_row w3 _ 0 _ _ _ g6.out]; rfl
      have k1 : w3.cell? ⟨w1.heap.size + 1, 1, none⟩ = some (.int .u64 q1) := by rw [cell_of_row w3 _ 1 _ _ _ g6.out]; rfl
      have fz : ∀ j, w3.frozen? ⟨w1.heap.size + 1, j, none⟩ = false := fun j => frozen_of_row w3 _ j _ _ g6.out
      clear hb3 t2 x60 x61
      go_wp2_with fail
      go_roundg (gk / 2)
      case measure => omega
      case rel =>
        refine ⟨O', Q', m0, m1, n0, n1, rfl, by omega, lO', lQ', HRUN, HO', HQ', ?_, ?_, ?_, ?_, ?_⟩
        · show (World.setCell (World.setCell w3 _ _) _ _).heap[w1.heap.size]? = _
          rw [heap_setCell_other _ _ _ _ (by simp), heap_setCell_other _ _ _ _ (by simp)]
          exact g5.out
        · show (World.setCell (World.setCell w3 _ _) _ _).heap[w1.heap.size + 1]? = _
          rw [heap_setCell_same _ _ 1 _ _ _ (heap_setCell_same _ _ 0 _ _ _ g6.out)]
          rfl
        · show (World.setCell (World.setCell w3 _ _) _ _).heap[w.heap.size]? = _
          rw [heap_setCell_other _ _ _ _ (by simp; omega), heap_setCell_other _ _ _ _ (by simp; omega)]
          exact g4.out
        · exact (g3.out.setCell (p := ⟨w1.heap.size + 1, 0, none⟩) (by simp; omega) _).setCell (p := ⟨w1.heap.size + 1, 1, none⟩) (by simp; omega) _
        · simp; omega

end Go.Proofs.Ytaplmdbcjckbkaa

/-
  FnAdlerFilled: the sum of n equal bytes, n in 0..100000, follows from the byte and n, for every byte and every n. No condition.
-/
import Derived.Test.YtaplmdbcjckbkaaAdler
import Derived.Deep.LoopGhost
namespace Go.Proofs.Ytaplmdbcjckbkaa
open Go.RowKit

theorem Adl.filled (n : Nat) (v : UInt8) : Adl.sm (List.replicate n v) = n * v.toNat ∧ 2 * Adl.ws (List.replicate n v) = v.toNat * (n * (n + 1)) := by
  induction n with
  | zero => simp [Adl.sm, Adl.ws]
  | succ n ih =>
    obtain ⟨h1, h2⟩ := ih
    rw [List.replicate_succ]
    simp only [Adl.sm, Adl.ws, h1, List.length_replicate]
    generalize v.toNat = t at *
    have e1 : (n + 1) * t = n * t + t := by rw [Nat.add_mul, Nat.one_mul]
    have e2 : (n + 1) * (n + 1 + 1) = n * (n + 1) + 2 * (n + 1) := by simp only [Nat.add_mul, Nat.mul_add]; omega
    have e3 : t * (n * (n + 1) + 2 * (n + 1)) = t * (n * (n + 1)) + 2 * ((n + 1) * t) := by rw [Nat.mul_add, Nat.mul_left_comm t 2 (n + 1), Nat.mul_comm t (n + 1)]
    refine ⟨by omega, ?_⟩
    rw [e2, e3, Nat.mul_add, h2]
    omega

theorem Adl.filled_ab (n : Nat) (v : UInt8) :
    (Adl.a (List.replicate n v) : Int) = (1 + ((n : Int) % 65521) * v.toNat) % 65521 ∧ (Adl.b (List.replicate n v) : Int) = ((n : Int) + v.toNat * (((n : Int) * (n + 1) / 2) % 65521)) % 65521 := by
  obtain ⟨h1, h2⟩ := Adl.filled n v
  constructor
  · have e : ((n : Int) % 65521 * v.toNat) % 65521 = ((n : Int) * v.toNat) % 65521 := by rw [Int.mul_emod, Int.emod_emod_of_dvd _ (Int.dvd_refl _), ← Int.mul_emod]
    have e2 : ((n * v.toNat : Nat) : Int) = (n : Int) * v.toNat := Int.natCast_mul _ _
    simp only [Adl.a, h1]
    rw [← e2] at e
    omega
  · obtain ⟨q, hq⟩ : ∃ q, n * (n + 1) = 2 * q := by
      rcases Nat.mod_two_eq_zero_or_one n with h | h
      · obtain ⟨k, hk⟩ : ∃ k, n = 2 * k := ⟨n / 2, by omega⟩
        exact ⟨k * (n + 1), by rw [hk, Nat.mul_assoc]⟩
      · obtain ⟨k, hk⟩ : ∃ k, n + 1 = 2 * k := ⟨(n + 1) / 2, by omega⟩
        exact ⟨n * k, by rw [hk, Nat.mul_left_comm]⟩
    have hq' : (n : Int) * (n + 1) = 2 * (q : Int) := by exact_mod_cast hq
    have h3 : Adl.ws (List.replicate n v) = v.toNat * q := by
      rw [hq, Nat.mul_left_comm] at h2
      omega
    have e1 : (n : Int) * (n + 1) / 2 = (q : Int) := by rw [hq']; omega
    have e : ((v.toNat : Int) * ((q : Int) % 65521)) % 65521 = ((v.toNat : Int) * q) % 65521 := by rw [Int.mul_emod, Int.emod_emod_of_dvd _ (Int.dvd_refl _), ← Int.mul_emod]
    have e2 : ((v.toNat * q : Nat) : Int) = (v.toNat : Int) * q := Int.natCast_mul _ _
    rw [e1]
    simp only [Adl.b, h3, List.length_replicate]
    rw [← e2] at e
    omega

set_option maxRecDepth 100000 in
set_option maxHeartbeats 2000000 in
theorem adlerFilled_walk (x0 : UInt8) (a1 : Int) (w : World) (b1 : -9223372036854775808 ≤ a1 ∧ a1 ≤ 9223372036854775807) :
    Calls Try.prog 4 #[.int .u8 (x0.toNat : Int), .int .i64 a1] w fun e w' => e = .returned (.bool true) ∧ Below w.heap.size w w' := by
  by_cases h0 : a1 < 0
  · go_enter Try.func4, Try.ntmps4
    go_wp2
    go_ret
    exact ⟨rfl, Below.refl _ _⟩
  by_cases h1 : 100000 < a1
  · go_enter Try.func4, Try.ntmps4
    go_wp2
    go_ret
    exact ⟨rfl, Below.refl _ _⟩
  obtain ⟨n, rfl⟩ := Int.eq_ofNat_of_zero_le (show 0 ≤ a1 by omega)
  have hn : n ≤ 100000 := by omega
  clear h0 h1 b1
  have d1 : decide ((n : Int) < 0) = false := decide_eq_false (by omega)
  have d2 : decide ((100000 : Int) < (n : Int)) = false := by simp; omega
  have hmk := run_make_row' (P := Try.prog) 22 5 (.int .u8 0) 1 Try.underlying22 info5 rfl .i64 .i64 n (by omega) (by omega)
  obtain ⟨e1, e2⟩ := Adl.filled_ab n x0
  have la := Adl.a_lt (List.replicate n x0)
  have lb := Adl.b_lt (List.replicate n x0)
  obtain ⟨a, ea⟩ : ∃ a, a = Adl.a (List.replicate n x0) := ⟨_, rfl⟩
  obtain ⟨b, eb⟩ : ∃ b, b = Adl.b (List.replicate n x0) := ⟨_, rfl⟩
  rw [← ea] at la e1
  rw [← eb] at lb e2
  have HA := Lib.hid ea
  have HB := Lib.hid eb
  have hx0 := x0.toNat_lt
  have t1 : ((a : Int) == (1 + ((n : Int) % 65521) * x0.toNat) % 65521) = true := by rw [beq_iff_eq]; exact e1
  have t2 : ((b : Int) == ((n : Int) + x0.toNat * (((n : Int) * (n + 1) / 2) % 65521)) % 65521) = true := by rw [beq_iff_eq]; exact e2
  have p1 : 0 ≤ ((n : Int) % 65521) * x0.toNat := Int.mul_nonneg (by omega) (by omega)
  have p2 : ((n : Int) % 65521) * x0.toNat ≤ 65521 * 256 := Int.mul_le_mul (by omega) (by omega) (by omega) (by omega)
  have p3 : 0 ≤ (x0.toNat : Int) * (((n : Int) * (n + 1) / 2) % 65521) := Int.mul_nonneg (by omega) (by omega)
  have p4 : (x0.toNat : Int) * (((n : Int) * (n + 1) / 2) % 65521) ≤ 256 * 65521 := Int.mul_le_mul (by omega) (by omega) (by omega) (by omega)
  have p5 : 0 ≤ (n : Int) * (n + 1) := Int.mul_nonneg (by omega) (by omega)
  have p6 : (n : Int) * (n + 1) ≤ 100000 * 100001 := Int.mul_le_mul (by omega) (by omega) (by omega) (by omega)
  clear ea eb e1 e2
  go_enter Try.func4, Try.ntmps4
  go_wp2
  go_loopg [20] n (fun gk i wr => ∃ (k : Nat) (cr : Array Value), k + gk = n ∧ i = .int .i64 (k : Int) ∧ Hid (wr.heap[w.heap.size]? = some (.cells cr 5 (0, 0))) ∧ Hid (cr.size = n ∧ ∀ j, j < k → cr[j]? = some (bv x0)) ∧ Hid (Below w.heap.size w wr))
  case atStart => exact ⟨0, _, by omega, rfl, heap_alloc_new w _, ⟨by simp [madeCells], fun j hj => by omega⟩, (Below.refl _ _).alloc (Nat.le_refl _) _⟩
  case round =>
    obtain ⟨k, cr, hk, rfl, hblk, hcr, hbel⟩ := hrel
    have HK := Lib.hid hk
    have hkn : k ≤ n := by omega
    clear hk
    by_cases hlt : k < n
    · obtain ⟨old, hold⟩ : ∃ old, cr[k]? = some old := ⟨_, Array.getElem?_eq_getElem (by rw [hcr.out.1]; exact hlt)⟩
      have hcell : wr.cell? ⟨w.heap.size, k, none⟩ = some old := by rw [cell_of_row wr _ _ _ _ _ hblk.out]; exact hold
      have hfz : wr.frozen? ⟨w.heap.size, k, none⟩ = false := frozen_of_row wr _ _ _ _ hblk.out
      have HO := Lib.hid hold
      clear hold
      go_wp2
      go_roundg (gk - 1)
      case measure => have := HK.out; omega
      case rel =>
        refine ⟨k + 1, cr.setIfInBounds k (bv x0), by have := HK.out; omega, by go_num, heap_setCell_same wr _ _ _ _ _ hblk.out, ⟨by simpa using hcr.out.1, fun j hj => ?_⟩, hbel.out.setCell (Nat.le_refl _) _⟩
        have hsz := hcr.out.1
        rw [Array.getElem?_setIfInBounds]
        split
        · rw [if_pos (by omega)]
        · exact hcr.out.2 j (by omega)
    · obtain rfl : k = n := by omega
      have hrd : Rd wr wr.heap.size (some ⟨w.heap.size, 0, none⟩) (List.replicate k x0) := by
        have hsz := hbel.out.size
        refine .inr ⟨w.heap.size, 0, rfl, ?_, fun i x hx => ?_⟩
        · exact (Array.getElem?_eq_some_iff.1 hblk.out).1
        · rw [cell_of_row wr _ _ _ _ _ hblk.out, Nat.zero_add]
          rw [List.getElem?_replicate] at hx
          split at hx
          · injection hx with hx
            subst hx
            exact hcr.out.2 i (by omega)
          · cases hx
      have z := hbel.out.size
      clear hlt
      go_wp2_with fail
      refine (adler_any _ _ _ (List.replicate k x0) wr (by simp) hrd (by simp; omega)).mono ?_
      rintro e w2 ⟨rfl, hb2⟩
      rw [← HA.out, ← HB.out]
      have hfin : Below w.heap.size w w2 := hbel.out.trans (hb2.mono z)
      clear hb2 hrd
      go_wp2_with fail
      refine (rest_any _ _ (by omega) (by omega)).mono ?_
      rintro e w3 ⟨rfl, rfl⟩
      go_wp2_with fail
      refine (rest_any _ _ (by omega) (by omega)).mono ?_
      rintro e w3 ⟨rfl, rfl⟩
      go_wp2_with fail
      refine (rest_any _ _ (by omega) (by omega)).mono ?_
      rintro e w3 ⟨rfl, rfl⟩
      go_wp2_with fail
      refine (rest_any _ _ (by omega) (by omega)).mono ?_
      rintro e w3 ⟨rfl, rfl⟩
      go_wp2_with fail
      go_ret
      exact ⟨rfl, hfin⟩

end Go.Proofs.Ytaplmdbcjckbkaa

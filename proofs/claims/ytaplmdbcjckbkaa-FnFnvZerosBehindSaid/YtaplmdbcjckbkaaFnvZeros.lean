/-
  FnFnvZeros: the sum of FNV of n bytes 0 is the offset basis times the prime to the power of n, for every kind and every n in 0 .. 65536. No condition.
-/
import Derived.Test.YtaplmdbcjckbkaaFnvKinds
import Derived.Test.YtaplmdbcjckbkaaPower
import Derived.Deep.OwnRows
namespace Go.Proofs.Ytaplmdbcjckbkaa
open Go.RowKit
set_option linter.unusedVariables false

theorem Fnv.step_zero (k h : Nat) : Fnv.step k h 0 = h * Fnv.prime k % Fnv.md k := by
  unfold Fnv.step
  rw [show (0 : UInt8).toNat = 0 from rfl]
  split <;> rw [Nat.xor_zero]
theorem Fnv.run_zeros (k h n : Nat) (hh : h < Fnv.md k) : Fnv.run k h (List.replicate n 0) = h * (Fnv.prime k ^ n % Fnv.md k) % Fnv.md k := by
  induction n generalizing h with
  | zero => rw [Nat.pow_zero, Nat.mul_mod_mod, Nat.mul_one, Nat.mod_eq_of_lt hh]; rfl
  | succ n ih =>
    show Fnv.run k (Fnv.step k h 0) (List.replicate n 0) = _
    rw [Fnv.step_zero, ih _ (Nat.mod_lt _ (Fnv.md_pos k)), Nat.mul_mod_mod, Nat.mul_mod_mod, Nat.mod_mul_mod, Nat.pow_succ, Nat.mul_assoc, Nat.mul_comm (Fnv.prime k)]
theorem Fnv.offset_lt {k : Nat} (hk : k < 6) : Fnv.offset k < Fnv.md k := Fnv.sum_lt k [] hk

theorem Rd.zeros (w : World) (n B : Nat) (hB : w.heap.size < B) : Rd (w.alloc (.cells (madeCells #[Value.int .u8 0] n) 5)) B (some ⟨w.heap.size, 0, none⟩) (List.replicate n 0) := by
  refine .inr ⟨w.heap.size, 0, rfl, hB, fun i x hx => ?_⟩
  rw [cell_of_row _ w.heap.size _ _ _ _ (heap_alloc_new w _)]
  have h1 := toList_madeCells_one (Value.int .u8 0) n
  rw [← Array.getElem?_toList, h1]
  obtain ⟨hi, rfl⟩ : i < n ∧ 0 = x := by simpa [List.getElem?_replicate] using hx
  rw [Nat.zero_add, List.getElem?_replicate, if_pos hi]
  rfl

theorem Kp.two {B : Nat} {w w1 : World} {p1 p2 : Addr} {v1 v2 : Value} (c1 : w.cell? p1 = some v1) (c2 : w.cell? p2 = some v2) (l1 : p1.block < B) (l2 : p2.block < B) (h : Kp B w w1) : (w1.cell? p1 = some v1 ∧ w1.cell? p2 = some v2) ∧ Kp B w w1 :=
  ⟨⟨h.cell l1 c1, h.cell l2 c2⟩, h⟩
theorem Kp.two_step {B : Nat} {w w1 w2 : World} {p1 p2 : Addr} {v1 v2 : Value} (l1 : p1.block < B) (l2 : p2.block < B) (hb : Below w1.heap.size w1 w2) (h : (w1.cell? p1 = some v1 ∧ w1.cell? p2 = some v2) ∧ Kp B w w1) :
    (w2.cell? p1 = some v1 ∧ w2.cell? p2 = some v2) ∧ Kp B w w2 := by
  obtain ⟨⟨a, b⟩, k⟩ := h
  exact ⟨⟨(hb.cell (Nat.lt_of_lt_of_le l1 k.le)).trans a, (hb.cell (Nat.lt_of_lt_of_le l2 k.le)).trans b⟩, Kp.step hb k⟩

set_option maxRecDepth 100000 in
set_option maxHeartbeats 4000000 in
theorem fnvZeros_walk (a0 a1 : Int) (w : World) (h0 : -9223372036854775808 ≤ a0 ∧ a0 ≤ 9223372036854775807) (h1 : -9223372036854775808 ≤ a1 ∧ a1 ≤ 9223372036854775807) :
    Calls Try.prog 15 #[.int .i64 a0, .int .i64 a1] w fun e w' => e = .returned (.bool true) ∧ Below w.heap.size w w' := by
  by_cases hr : 0 ≤ a0 ∧ a0 ≤ 5
  case neg =>
    have hd : decide (0 ≤ a0 ∧ a0 ≤ 5) = false := decide_eq_false hr
    go_enter Try.func15, Try.ntmps15
    go_wp2_with fail
    refine (isFnv_any _ w).mono ?_
    rintro e w1 ⟨rfl, rfl⟩
    rw [hd]
    go_wp2
    go_ret
    exact ⟨rfl, Below.refl _ _⟩
  case pos =>
  have hd : decide (0 ≤ a0 ∧ a0 ≤ 5) = true := decide_eq_true hr
  by_cases hr0 : a1 < 0
  · have t0 : decide (a1 < 0) = true := decide_eq_true hr0
    go_enter Try.func15, Try.ntmps15
    go_wp2_with fail
    refine (isFnv_any _ w).mono ?_
    rintro e w1 ⟨rfl, rfl⟩
    rw [hd]
    go_wp2
    go_ret
    exact ⟨rfl, Below.refl _ _⟩
  by_cases hr2 : a1 > 65536
  · have t0 : decide (a1 < 0) = false := decide_eq_false hr0
    have t2 : decide (a1 > 65536) = true := decide_eq_true hr2
    go_enter Try.func15, Try.ntmps15
    go_wp2_with fail
    refine (isFnv_any _ w).mono ?_
    rintro e w1 ⟨rfl, rfl⟩
    rw [hd]
    go_wp2
    go_ret
    exact ⟨rfl, Below.refl _ _⟩
  obtain ⟨k, rfl, hk⟩ : ∃ k : Nat, a0 = (k : Int) ∧ k < 6 := ⟨a0.toNat, by omega, by omega⟩
  obtain ⟨n, rfl, hn⟩ : ∃ n : Nat, a1 = (n : Int) ∧ n ≤ 65536 := ⟨a1.toNat, by omega, by omega⟩
  have t0 : decide ((n : Int) < 0) = false := decide_eq_false hr0
  have t2 : decide ((n : Int) > 65536) = false := decide_eq_false hr2
  have hmk := run_make_row' (P := Try.prog) 22 5 (.int .u8 0) 1 Try.underlying22 info5 rfl .i64 .i64 n (by omega) (by omega)
  have lM := Nat.le_of_dvd (by decide) (md_dvd hk)
  have hz := Fnv.run_zeros k (Fnv.offset k) n (Fnv.offset_lt hk)
  obtain ⟨u, v, hw⟩ := wide_cells (Fnv.sum k (List.replicate n 0))
  have HW := Lib.hid hw
  obtain ⟨PO, ePO⟩ : ∃ P : Value, P = wv (Fnv.offset k) := ⟨_, rfl⟩
  obtain ⟨PP, ePP⟩ : ∃ P : Value, P = wv (Fnv.prime k ^ n % Fnv.md k) := ⟨_, rfl⟩
  have HO : Hid (∀ w' : World, Calls Try.prog 25 #[.int .i64 (k : Int)] w' fun e w'' => e = .returned PO ∧ Below w'.heap.size w' w'') := fun w' => by rw [ePO]; exact offset_any k hk w'
  have HP : Hid (∀ w' : World, Calls Try.prog 26 #[.int .i64 (k : Int), .int .i64 (n : Int)] w' fun e w'' => e = .returned PP ∧ Below w'.heap.size w' w'') := fun w' => by rw [ePP]; exact power_any k hk n hn w'
  have HT : Hid (∀ w' : World, Calls Try.prog 23 #[.int .i64 (k : Int), PO, PP] w' fun e w'' => e = .returned (.agg #[.int .u64 u, .int .u64 v]) ∧ Below w'.heap.size w' w'') := fun w' => by
    have h := times_any k hk (Fnv.offset k) (Fnv.prime k ^ n % Fnv.md k) (Nat.lt_of_lt_of_le (Fnv.offset_lt hk) lM) (Nat.lt_of_lt_of_le (Nat.mod_lt _ (Fnv.md_pos k)) lM) w'
    rw [← hz] at h
    rw [ePO, ePP, ← hw]
    exact h
  have o4 : (u == u) = true := by simp
  have o5 : (v == v) = true := by simp
  clear hz hw ePO ePP lM h0 h1 hr hr0 hr2
  go_enter Try.func15, Try.ntmps15
  go_wp2_with fail
  refine (isFnv_any _ w).mono ?_
  rintro e w0 ⟨rfl, rfl⟩
  rw [hd]
  go_wp2_with fail
  have s0 : (w0.alloc (.cells (madeCells #[Value.int .u8 0] n) 5)).heap.size = w0.heap.size + 1 := by simp
  refine (fnv_any k hk _ _ _ (List.replicate n 0) _ (by simp) (Rd.zeros w0 n _ (by omega)) (by simp; omega)).mono ?_
  rintro e w1 ⟨rfl, hb1⟩
  rw [HW.out]
  have z1 := hb1.size
  have bw1 : Below w0.heap.size w0 w1 := ((Below.refl _ _).alloc (Nat.le_refl _) _).trans (hb1.mono (by omega))
  have l1 := bw1.size
  clear hb1 hmk
  go_wp2_with fail
  obtain ⟨V6, hV6⟩ : ∃ V, w1.alloc (.cells #[.int .u64 u, .int .u64 v] 36) = V := ⟨_, rfl⟩
  have s6 : V6.heap.size = w1.heap.size + 1 := by subst hV6; simp
  have e6 : V6.heap[w1.heap.size]? = some (.cells #[.int .u64 u, .int .u64 v] 36 (0, 0)) := by subst hV6; exact heap_alloc_new w1 _
  have b6 : Below w0.heap.size w0 V6 := by subst hV6; exact bw1.alloc l1 _
  rw [hV6]
  clear hV6
  have c60 : V6.cell? ⟨w1.heap.size, 0, none⟩ = some (.int .u64 u) := by rw [cell_of_row V6 _ 0 _ _ _ e6]; rfl
  have c61 : V6.cell? ⟨w1.heap.size, 1, none⟩ = some (.int .u64 v) := by rw [cell_of_row V6 _ 1 _ _ _ e6]; rfl
  have start : Kp V6.heap.size V6 V6.drew := ⟨(Below.refl _ _).drew, Nat.le_refl _⟩
  have lb1 : w1.heap.size < V6.heap.size := by omega
  clear e6 s6 z1 l1 bw1 s0
  go_region_held3 (fun w' => (w'.cell? ⟨w1.heap.size, 0, none⟩ = some (.int .u64 u) ∧ w'.cell? ⟨w1.heap.size, 1, none⟩ = some (.int .u64 v)) ∧ Kp V6.heap.size V6 w')
    (first | exact ⟨⟨c60, c61⟩, start⟩ | (refine Kp.two c60 c61 lb1 lb1 ?_; first | exact start | (refine Kp.step ?_ start; assumption)) | exact Kp.two_step lb1 lb1 (by assumption) (by assumption))
    (first | (go_at_call 25; refine (HO.out _).mono ?_; rintro e w' ⟨rfl, hb⟩) | (go_at_call 26; refine (HP.out _).mono ?_; rintro e w' ⟨rfl, hb⟩) | (go_at_call 23; refine (HT.out _).mono ?_; rintro e w' ⟨rfl, hb⟩))
  have K : (w'.cell? ⟨w1.heap.size, 0, none⟩ = some (.int .u64 u) ∧ w'.cell? ⟨w1.heap.size, 1, none⟩ = some (.int .u64 v)) ∧ Kp V6.heap.size V6 w' := by assumption
  have bk : Below w0.heap.size w0 w' := b6.trans (K.2.bel.mono b6.size)
  clear K
  go_wp2_with fail
  go_ret
  exact ⟨rfl, bk⟩

end Go.Proofs.Ytaplmdbcjckbkaa

/-
  FnFnvBasis: going back over all bytes leads to the offset basis, for every kind and every data. No condition.
-/
import Derived.Test.YtaplmdbcjckbkaaGreatBefore
import Derived.Test.YtaplmdbcjckbkaaGreatJoined
import Derived.Deep.LoopGhost
import Derived.IntWalk
namespace Go.Proofs.YtaplmdbcjckbkaaGreat
open Go.RowKit
set_option linter.unusedVariables false

theorem Fnv.back_take {k : Nat} (hk : k < 6) (a bs : List UInt8) (j : Nat) (x : UInt8) (hx : bs[j]? = some x) : Fnv.back k (Fnv.sum k (a ++ bs.take (j + 1))) x = Fnv.sum k (a ++ bs.take j) := by
  rw [List.take_add_one, hx, ← List.append_assoc, Fnv.sum_append k (a ++ bs.take j)]
  exact Fnv.back_step hk _ x (Fnv.sum_lt k _ hk)

set_option maxRecDepth 100000 in
set_option maxHeartbeats 4000000 in
theorem fnvBasis_walk (a0 : Int) (A1 : Option Addr) (c1 : Nat) (bs1 : List UInt8) (w : World) (h0 : -9223372036854775808 ≤ a0 ∧ a0 ≤ 9223372036854775807) (rd1 : Rd w w.heap.size A1 bs1) (lc1 : bs1.length ≤ c1) (lm1 : c1 ≤ 140737488351232) :
    Calls Tryz.prog 4 #[.int .i64 a0, .slice A1 bs1.length c1] w fun e w' => e = .returned (.bool true) ∧ Below w.heap.size w w' := by
  obtain ⟨n, hn⟩ : ∃ m, m = bs1.length := ⟨_, rfl⟩
  rw [← hn] at lc1 ⊢
  have HN := Lib.hid hn
  clear hn
  by_cases hr : 0 ≤ a0 ∧ a0 ≤ 5
  case neg =>
    have hd : decide (0 ≤ a0 ∧ a0 ≤ 5) = false := decide_eq_false hr
    go_enter Tryz.func4, Tryz.ntmps4
    go_wp2_with fail
    refine (isFnv_any _ w).mono ?_
    rintro e w1 ⟨rfl, rfl⟩
    rw [hd]
    go_wp2
    go_ret
    exact ⟨rfl, Below.refl _ _⟩
  case pos =>
  have hd : decide (0 ≤ a0 ∧ a0 ≤ 5) = true := decide_eq_true hr
  obtain ⟨k, rfl, hk⟩ : ∃ k : Nat, a0 = (k : Int) ∧ k < 6 := ⟨a0.toNat, by omega, by omega⟩
  clear hr h0
  obtain ⟨u0, v0, hw0⟩ := wide_cells (Fnv.sum k bs1)
  have HW0 := Lib.hid hw0
  clear hw0
  go_enter Tryz.func4, Tryz.ntmps4
  go_wp2_with fail
  refine (isFnv_any _ w).mono ?_
  rintro e w0 ⟨rfl, rfl⟩
  rw [hd]
  go_wp2_with fail
  refine (fnv_any k hk A1 n c1 bs1 w0 HN.out rd1 (by have := HN.out; omega)).mono ?_
  rintro e w1 ⟨rfl, hb1⟩
  rw [HW0.out]
  have z1 := hb1.size
  go_wp2_with fail
  obtain ⟨B, eB⟩ : ∃ B, B = w1.heap.size := ⟨_, rfl⟩
  go_loopg [7] n (fun gk iv wr => ∃ (i u v : Int), iv = .int .i64 i ∧ Hid (i = (gk : Int) - 1) ∧ gk ≤ n ∧ Hid (wv (Fnv.sum k ([] ++ bs1.take gk)) = .agg #[.int .u64 u, .int .u64 v]) ∧
    Hid (wr.heap[w1.heap.size]? = some (.cells #[.int .u64 u, .int .u64 v] 26 (0, 0))) ∧ Hid (Below w0.heap.size w0 wr) ∧ w1.heap.size < wr.heap.size)
  case atStart =>
    refine ⟨_, u0, v0, rfl, rfl, Nat.le_refl _, ?_, heap_alloc_new w1 _, hb1.alloc z1 _, by simp⟩
    show _ = _
    rw [List.nil_append, List.take_of_length_le (by have := HN.out; omega)]
    exact HW0.out
  case round =>
    obtain ⟨i, u, v, rfl, hi, hgn, hwS, hbS, hbel, hsz⟩ := hrel
    have c0 : wr.cell? ⟨w1.heap.size, 0, none⟩ = some (.int .u64 u) := by rw [cell_of_row wr _ 0 _ _ _ hbS.out]; rfl
    have c1' : wr.cell? ⟨w1.heap.size, 1, none⟩ = some (.int .u64 v) := by rw [cell_of_row wr _ 1 _ _ _ hbS.out]; rfl
    cases gk with
    | succ j =>
      obtain rfl : i = (j : Int) := by have := hi.out; omega
      obtain ⟨b, off, x, rfl, hbB, hx, hcx⟩ := (rd1.below hbel.out).at (k := j) (by have := HN.out; omega)
      have hbk := Fnv.back_take hk [] bs1 j x hx
      obtain ⟨n0, n1, hn'⟩ := wide_cells (Fnv.sum k ([] ++ bs1.take j))
      have HN' := Lib.hid hn'
      have ls := Fnv.sum_lt k ([] ++ bs1.take (j + 1)) hk
      have z0 := hbel.out.size
      have HB : Hid (Calls Tryz.prog 9 #[.int .i64 (k : Int), .agg #[.int .u64 u, .int .u64 v], .int .u8 (x.toNat : Int)] wr.drew fun e w' => e = .returned (.agg #[.int .u64 n0, .int .u64 n1]) ∧ Below wr.heap.size wr w' ∧ w'.heap[w1.heap.size]? = some (.cells #[.int .u64 u, .int .u64 v] 26 (0, 0)) ∧ w'.cell? ⟨w1.heap.size, 0, none⟩ = some (.int .u64 u) ∧ w'.cell? ⟨w1.heap.size, 1, none⟩ = some (.int .u64 v) ∧ (∀ q, w'.frozen? ⟨w1.heap.size, q, none⟩ = false)) := by
        have h := before_any k hk _ ls x wr.drew
        rw [hbk, hn', hwS.out] at h
        refine h.mono ?_
        rintro e w' ⟨he, hb⟩
        have hb' : Below wr.heap.size wr w' := ((Below.refl _ wr).drew).trans hb
        have hbl := (hb'.block w1.heap.size (by omega)).trans hbS.out
        exact ⟨he, hb', hbl, by rw [cell_of_row w' _ 0 _ _ _ hbl]; rfl, by rw [cell_of_row w' _ 1 _ _ _ hbl]; rfl, fun q => frozen_of_row w' _ q _ _ hbl⟩
      have j0 : (0 : Int) ≤ (j : Int) := by omega
      have j1 : (j : Int) < (n : Int) := by omega
      have hjn : j < n := by omega
      clear hbk hn' hx ls hi
      go_wp2_with fail
      go_region_with (go_at_call 9; refine HB.out.mono ?_; rintro e w' ⟨rfl, hbw, hbl, kc0, kc1, kfz⟩)
      all_goals
        have sz' := hbw.size
        have gB : Hid (Below w0.heap.size w0 w') := hbel.out.trans (hbw.mono (by omega))
        have gS := Lib.hid hbl
        clear hbl kc0 kc1 kfz
        go_wp2_with fail
        go_roundg j
      all_goals first
        | (case measure => omega)
        | (case rel =>
            refine ⟨_, n0, n1, rfl, rfl, by omega, HN', ?_, ?_, ?_⟩
            · show (World.setCell (World.setCell w' _ _) _ _).heap[w1.heap.size]? = _
              rw [heap_setCell_same _ _ 1 _ _ _ (heap_setCell_same _ _ 0 _ _ _ gS.out)]
              rfl
            · exact (gB.out.setCell (p := ⟨w1.heap.size, 0, none⟩) (by simp; omega) _).setCell (p := ⟨w1.heap.size, 1, none⟩) (by simp; omega) _
            · simp; omega)
    | zero =>
      obtain rfl : i = -1 := by have := hi.out; omega
      have hoff : wv (Fnv.offset k) = .agg #[.int .u64 u, .int .u64 v] := by
        rw [← hwS.out]; rfl
      have o4 : (u == u) = true := by simp
      have o5 : (v == v) = true := by simp
      have HO : Hid (∀ w' : World, Calls Tryz.prog 10 #[.int .i64 (k : Int)] w' fun e w'' => e = .returned (.agg #[.int .u64 u, .int .u64 v]) ∧ Below w'.heap.size w' w'') := fun w' => by rw [← hoff]; exact offset_any k hk w'
      have b6 := hbel.out
      have start : Kp wr.heap.size wr wr.drew := ⟨(Below.refl _ _).drew, Nat.le_refl _⟩
      clear hoff hi hgn
      go_wp2_with fail
      go_region_held3 (fun w' => (w'.cell? ⟨w1.heap.size, 0, none⟩ = some (.int .u64 u) ∧ w'.cell? ⟨w1.heap.size, 1, none⟩ = some (.int .u64 v)) ∧ Kp wr.heap.size wr w')
        (first | exact ⟨⟨c0, c1'⟩, start⟩ | (refine Kp.two c0 c1' hsz hsz ?_; first | exact start | (refine Kp.step ?_ start; assumption)) | exact Kp.two_step hsz hsz (by assumption) (by assumption))
        (first | (go_at_call 10; refine (HO.out _).mono ?_; rintro e w' ⟨rfl, hb⟩))
      have K : (w'.cell? ⟨w1.heap.size, 0, none⟩ = some (.int .u64 u) ∧ w'.cell? ⟨w1.heap.size, 1, none⟩ = some (.int .u64 v)) ∧ Kp wr.heap.size wr w' := by assumption
      have bk : Below w0.heap.size w0 w' := b6.trans (K.2.bel.mono b6.size)
      clear K
      go_wp2_with fail
      go_ret
      exact ⟨rfl, bk⟩

end Go.Proofs.YtaplmdbcjckbkaaGreat

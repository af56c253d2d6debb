/-
  FnFnvBack: from the sum of FNV of x and y behind it, that of x follows, for every kind and all lists of bytes. Condition: the lengths' bounds.
-/
import Derived.Test.YtaplmdbcjckbkaaGreatFnvBasis
import Derived.Test.YtaplmdbcjckbkaaGreatJoined
import Derived.Deep.LoopGhost
import Derived.IntWalk
namespace Go.Proofs.YtaplmdbcjckbkaaGreat
open Go.RowKit
set_option linter.unusedVariables false

set_option maxRecDepth 100000 in
set_option maxHeartbeats 4000000 in
theorem fnvBack_walk (a0 : Int) (A1 : Option Addr) (c1 : Nat) (bs1 : List UInt8) (A2 : Option Addr) (c2 : Nat) (bs2 : List UInt8) (w : World) (h0 : -9223372036854775808 ≤ a0 ∧ a0 ≤ 9223372036854775807) (rd1 : Rd w w.heap.size A1 bs1) (lc1 : bs1.length ≤ c1) (lm1 : c1 ≤ 1048576) (rd2 : Rd w w.heap.size A2 bs2) (lc2 : bs2.length ≤ c2) (lm2 : c2 ≤ 1048576) :
    Calls Tryz.prog 3 #[.int .i64 a0, .slice A1 bs1.length c1, .slice A2 bs2.length c2] w fun e w' => e = .returned (.bool true) ∧ Below w.heap.size w w' := by
  obtain ⟨m, hm⟩ : ∃ m, m = bs1.length := ⟨_, rfl⟩
  obtain ⟨n, hn⟩ : ∃ m, m = bs2.length := ⟨_, rfl⟩
  rw [← hm] at lc1
  rw [← hn] at lc2
  rw [← hm, ← hn]
  have HM := Lib.hid hm
  have HN := Lib.hid hn
  clear hn hm
  by_cases hr : 0 ≤ a0 ∧ a0 ≤ 5
  case neg =>
    have hd : decide (0 ≤ a0 ∧ a0 ≤ 5) = false := decide_eq_false hr
    go_enter Tryz.func3, Tryz.ntmps3
    go_wp2_with fail
    refine (isFnv_any _ w).mono ?_
    rintro e w1 ⟨rfl, rfl⟩
    rw [hd]
    go_wp2
    go_ret
    exact ⟨rfl, Below.refl _ _⟩
  case pos =>
  have hd : decide (0 ≤ a0 ∧ a0 ≤ 5) = true := decide_eq_true hr
  obtain ⟨k, rfl, hk⟩ : ∃ k : Nat, a0 = (k : Int) ∧ k < 6 := ⟨a0.toNat, by omega, by omega⟩
  clear hr h0
  obtain ⟨u0, v0, hw0⟩ := wide_cells (Fnv.sum k (bs1 ++ bs2))
  have HW0 := Lib.hid hw0
  obtain ⟨u9, v9, hw9⟩ := wide_cells (Fnv.sum k bs1)
  have HW9 := Lib.hid hw9
  clear hw0 hw9
  go_enter Tryz.func3, Tryz.ntmps3
  go_wp2_with fail
  refine (isFnv_any _ w).mono ?_
  rintro e w0 ⟨rfl, rfl⟩
  rw [hd]
  go_wp2_with fail
  refine (joined2 _ _ m c1 n c2 bs1 bs2 w0 HM.out HN.out rd1 rd2 ?_).mono ?_
  · have := HM.out; have := HN.out; omega
  rintro e wj ⟨gj, dj, rfl, hoj, hbj, hsj⟩
  have zj := hbj.size
  go_wp2_with fail
  refine (fnv_any k hk _ _ _ (bs1 ++ bs2) wj (by simp) hoj.rd ?_).mono ?_
  · have := HM.out; have := HN.out; rw [List.length_append]; omega
  rintro e w1 ⟨rfl, hb1⟩
  rw [HW0.out]
  have z1 := hb1.size
  have bw1 : Below w0.heap.size w0 w1 := hbj.trans (hb1.mono zj)
  clear hoj hbj hb1
  go_wp2_with fail
  obtain ⟨V, hV⟩ : ∃ V, w1.alloc (.cells #[.int .u64 u0, .int .u64 v0] 26) = V := ⟨_, rfl⟩
  have sv : V.heap.size = w1.heap.size + 1 := by subst hV; simp
  have ev : V.heap[w1.heap.size]? = some (.cells #[.int .u64 u0, .int .u64 v0] 26 (0, 0)) := by subst hV; exact heap_alloc_new w1 _
  have bv : Below w0.heap.size w0 V := by subst hV; exact bw1.alloc (by omega) _
  rw [hV]
  clear hV
  refine (fnv_any k hk A1 m c1 bs1 V HM.out ((rd1.below bv).mono (by omega)) (by have := HM.out; omega)).mono ?_
  rintro e w2 ⟨rfl, hb2⟩
  rw [HW9.out]
  have z2 := hb2.size
  have bw2 : Below w0.heap.size w0 w2 := bv.trans (hb2.mono (by omega))
  have ev2 : w2.heap[w1.heap.size]? = some (.cells #[.int .u64 u0, .int .u64 v0] 26 (0, 0)) := by rw [hb2.block _ (by omega)]; exact ev
  clear hb2 ev bv
  go_wp2_with fail
  go_loopg [11] n (fun gk iv wr => ∃ (i u v : Int), iv = .int .i64 i ∧ Hid (i = (gk : Int) - 1) ∧ gk ≤ n ∧ Hid (wv (Fnv.sum k (bs1 ++ bs2.take gk)) = .agg #[.int .u64 u, .int .u64 v]) ∧
    Hid (wr.heap[w1.heap.size]? = some (.cells #[.int .u64 u, .int .u64 v] 26 (0, 0))) ∧ Hid (wr.heap[w2.heap.size]? = some (.cells #[.int .u64 u9, .int .u64 v9] 26 (0, 0))) ∧ Hid (Below w0.heap.size w0 wr) ∧ w2.heap.size < wr.heap.size)
  case atStart =>
    refine ⟨_, u0, v0, rfl, rfl, Nat.le_refl _, ?_, ?_, heap_alloc_new w2 _, bw2.alloc (by omega) _, by simp⟩
    · show _ = _
      rw [List.take_of_length_le (by have := HN.out; omega)]
      exact HW0.out
    · show _ = _
      rw [heap_alloc_old _ _ (by omega)]; exact ev2
  case round =>
    obtain ⟨i, u, v, rfl, hi, hgn, hwS, hbS, hb9, hbel, hsz⟩ := hrel
    have c0 : wr.cell? ⟨w1.heap.size, 0, none⟩ = some (.int .u64 u) := by rw [cell_of_row wr _ 0 _ _ _ hbS.out]; rfl
    have c1' : wr.cell? ⟨w1.heap.size, 1, none⟩ = some (.int .u64 v) := by rw [cell_of_row wr _ 1 _ _ _ hbS.out]; rfl
    cases gk with
    | succ j =>
      obtain rfl : i = (j : Int) := by have := hi.out; omega
      obtain ⟨b, off, x, rfl, hbB, hx, hcx⟩ := (rd2.below hbel.out).at (k := j) (by have := HN.out; omega)
      have hbk := Fnv.back_take hk bs1 bs2 j x hx
      obtain ⟨n0, n1, hn'⟩ := wide_cells (Fnv.sum k (bs1 ++ bs2.take j))
      have HN' := Lib.hid hn'
      have ls := Fnv.sum_lt k (bs1 ++ bs2.take (j + 1)) hk
      have z0 := hbel.out.size
      have HB : Hid (Calls Tryz.prog 9 #[.int .i64 (k : Int), .agg #[.int .u64 u, .int .u64 v], .int .u8 (x.toNat : Int)] wr.drew fun e w' => e = .returned (.agg #[.int .u64 n0, .int .u64 n1]) ∧ Below wr.heap.size wr w' ∧ w'.heap[w1.heap.size]? = some (.cells #[.int .u64 u, .int .u64 v] 26 (0, 0)) ∧ w'.cell? ⟨w1.heap.size, 0, none⟩ = some (.int .u64 u) ∧ w'.cell? ⟨w1.heap.size, 1, none⟩ = some (.int .u64 v) ∧ (∀ q, w'.frozen? ⟨w1.heap.size, q, none⟩ = false)) := by
        have h := before_any k hk _ ls x wr.drew
        rw [hbk, hn', hwS.out] at h
        refine h.mono ?_
        rintro e w' ⟨he, hb⟩
        have hb' : Below wr.heap.size wr w' := ((Below.refl _ wr).drew).trans hb
        have hbl := (hb'.block w1.heap.size (by omega)).trans hbS.out
        exact ⟨he, hb', hbl, by rw [cell_of_row w' _ 0 _ _ _ hbl]; rfl, by rw [cell_of_row w' _ 1 _ _ _ hbl]; rfl, fun q => frozen_of_row w' _ q _ _ hbl⟩
      have j0 : (0 : Int) ≤ (j : Int) := by omega
      have j1 : (j : Int) < (n : Int) := by omega
      have hjn : j < n := by omega
      clear hbk hn' hx ls hi
      go_wp2_with fail
      go_region_with (go_at_call 9; refine HB.out.mono ?_; rintro e w' ⟨rfl, hbw, hbl, kc0, kc1, kfz⟩)
      all_goals
        have sz' := hbw.size
        have gB : Hid (Below w0.heap.size w0 w') := hbel.out.trans (hbw.mono (by omega))
        have gS := Lib.hid hbl
        clear hbl kc0 kc1 kfz
        go_wp2_with fail
        go_roundg j
      all_goals first
        | (case measure => omega)
        | (case rel =>
            refine ⟨_, n0, n1, rfl, rfl, by omega, HN', ?_, ?_, ?_, ?_⟩
            · show (World.setCell (World.setCell w' _ _) _ _).heap[w1.heap.size]? = _
              rw [heap_setCell_same _ _ 1 _ _ _ (heap_setCell_same _ _ 0 _ _ _ gS.out)]
              rfl
            · show (World.setCell (World.setCell w' _ _) _ _).heap[w2.heap.size]? = _
              rw [heap_setCell_other _ _ _ _ (by simp; omega), heap_setCell_other _ _ _ _ (by simp; omega)]
              exact (hbw.block _ (by omega)).trans hb9.out
            · exact (gB.out.setCell (p := ⟨w1.heap.size, 0, none⟩) (by simp; omega) _).setCell (p := ⟨w1.heap.size, 1, none⟩) (by simp; omega) _
            · simp; omega)
    | zero =>
      obtain rfl : i = -1 := by have := hi.out; omega
      have he : (Value.agg #[.int .u64 u, .int .u64 v]) = .agg #[.int .u64 u9, .int .u64 v9] := by
        rw [← hwS.out, List.take_zero, List.append_nil, HW9.out]
      obtain ⟨rfl, rfl⟩ : u = u9 ∧ v = v9 := by simpa using he
      have o4 : (u == u) = true := by simp
      have o5 : (v == v) = true := by simp
      have d0 : wr.cell? ⟨w2.heap.size, 0, none⟩ = some (.int .u64 u) := by rw [cell_of_row wr _ 0 _ _ _ hb9.out]; rfl
      have d1 : wr.cell? ⟨w2.heap.size, 1, none⟩ = some (.int .u64 v) := by rw [cell_of_row wr _ 1 _ _ _ hb9.out]; rfl
      clear he hi hgn
      go_wp2_with fail
      go_ret
      exact ⟨rfl, hbel.out⟩

end Go.Proofs.YtaplmdbcjckbkaaGreat

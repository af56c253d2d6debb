/-
  spec.Inverse returns the inverse of the prime; spec.Before undoes a step of FNV. No condition.
-/
import Derived.Test.YtaplmdbcjckbkaaGreatFnvS
import Derived.Test.YtaplmdbcjckbkaaGreatFnvInv
import Derived.Test.YtaplmdbcjckbkaaGreatKp
import Derived.Shelf.Spec.BitsCarry
import Derived.Deep.LoopGhost
import Derived.Deep.RegionWith
namespace Go.Proofs.YtaplmdbcjckbkaaGreat
open Go.RowKit
set_option linter.unusedVariables false

theorem sub64_call (x y b : Nat) (hb : b ≤ 1) (w : World) :
    (callFunc 24 #[.int .u64 (x : Int), .int .u64 (y : Int), .int .u64 (b : Int)]).run Tryz.prog w =
      .ok (.value (.tuple #[.int .u64 (((x + 18446744073709551616 - y - b) % 18446744073709551616 : Nat) : Int), .int .u64 ((if x < y + b then 1 else 0 : Nat) : Int)])) w := by
  rw [run_callFunc_extern Tryz.func24 (by kernel_rfl) (by kernel_rfl) (by kernel_rfl) (e := sub64Entry) (by kernel_rfl), run_sub64 x y b hb]
  rfl

/-- the rounds of spec.Inverse -/
def Fnv.seq (k : Nat) : Nat → Nat
  | 0 => Fnv.prime k
  | i + 1 => Fnv.seq k i * ((2 + 340282366920938463463374607431768211456 - Fnv.prime k * Fnv.seq k i % Fnv.md k) % 340282366920938463463374607431768211456 % Fnv.md k) % Fnv.md k
theorem Fnv.seq_inv {k : Nat} (hk : k < 6) : Fnv.seq k 6 = Fnv.inv k := by
  rcases kinds6 hk with rfl | rfl | rfl | rfl | rfl | rfl
  · simp only [Fnv.seq, Fnv.prime, Fnv.md0, Fnv.inv]
  · simp only [Fnv.seq, Fnv.prime, Fnv.md1, Fnv.inv]
  · simp only [Fnv.seq, Fnv.prime, Fnv.md2, Fnv.inv]
  · simp only [Fnv.seq, Fnv.prime, Fnv.md3, Fnv.inv]
  · simp only [Fnv.seq, Fnv.prime, Fnv.md4, Fnv.inv]
  · simp only [Fnv.seq, Fnv.prime, Fnv.md5, Fnv.inv]
theorem Fnv.prime_lt' {k : Nat} (hk : k < 6) : Fnv.prime k < 340282366920938463463374607431768211456 := by
  rcases kinds6 hk with rfl | rfl | rfl | rfl | rfl | rfl <;> simp [Fnv.prime]
theorem Fnv.seq_lt {k : Nat} (hk : k < 6) (i : Nat) : Fnv.seq k i < 340282366920938463463374607431768211456 := by
  cases i with
  | zero => exact Fnv.prime_lt' hk
  | succ i => exact Nat.lt_of_lt_of_le (Nat.mod_lt _ (Fnv.md_pos k)) (Nat.le_of_dvd (by decide) (md_dvd hk))

/-- two less a number, in two words -/
theorem two_less (Y u v : Nat) (hY : Y < 340282366920938463463374607431768211456) (hu : u = Y / 18446744073709551616) (hv : v = Y % 18446744073709551616) (l h b : Nat) (hl : l = (2 + 18446744073709551616 - v - 0) % 18446744073709551616) (hb : b = if 2 < v + 0 then 1 else 0)
    (hh : h = (0 + 18446744073709551616 - u - b) % 18446744073709551616) : h * 18446744073709551616 + l = (2 + 340282366920938463463374607431768211456 - Y) % 340282366920938463463374607431768211456 := by
  have hYe : Y = u * 18446744073709551616 + v := by omega
  have hul : u < 18446744073709551616 := by omega
  have hvl : v < 18446744073709551616 := by omega
  split at hb <;> omega

set_option maxRecDepth 100000 in
set_option maxHeartbeats 4000000 in
theorem inverse_any (k : Nat) (hk : k < 6) (w : World) :
    Calls Tryz.prog 17 #[.int .i64 (k : Int)] w fun e w' => e = .returned (wv (Fnv.inv k)) ∧ Below w.heap.size w w' := by
  have lM := Nat.le_of_dvd (by decide) (md_dvd hk)
  have pM := Fnv.md_pos k
  have lP := Fnv.prime_lt' hk
  obtain ⟨p0, p1, hp⟩ := wide_cells (Fnv.prime k)
  have HPr := Lib.hid hp
  clear hp
  obtain ⟨X0, hX0⟩ : ∃ X, w.alloc (.cells #[.int .u64 0, .int .u64 0] 26) = X := ⟨_, rfl⟩
  have s0 : X0.heap.size = w.heap.size + 1 := by subst hX0; simp
  have e0 : X0.heap[w.heap.size]? = some (.cells #[.int .u64 0, .int .u64 0] 26 (0, 0)) := by subst hX0; exact heap_alloc_new w _
  have b0 : Below w.heap.size w X0 := by subst hX0; exact (Below.refl _ _).alloc (Nat.le_refl _) _
  go_enter Tryz.func17, Tryz.ntmps17
  go_wp2_with fail
  refine (prime_any k hk _).mono ?_
  rintro e w1 ⟨rfl, hb1⟩
  rw [HPr.out]
  have z1 := hb1.size
  have f0 : w1.heap[w.heap.size]? = some (.cells #[.int .u64 0, .int .u64 0] 26 (0, 0)) := by rw [hb1.block _ (by omega)]; exact e0
  have bw1 : Below w.heap.size w w1 := b0.trans (hb1.mono (by omega))
  have l1 : w.heap.size < w1.heap.size := by omega
  clear hX0 e0 b0 hb1
  go_wp2_with fail
  go_loopg [5] 6 (fun gk v wr => ∃ (i X : Nat) (q0 q1 : Int), i + gk = 6 ∧ v = .int .i64 (i : Int) ∧ Hid (X = Fnv.seq k i) ∧ X < 340282366920938463463374607431768211456 ∧
    Hid (wv X = .agg #[.int .u64 q0, .int .u64 q1]) ∧
    Hid (wr.heap[w1.heap.size]? = some (.cells #[.int .u64 p0, .int .u64 p1] 26 (0, 0))) ∧ Hid (wr.heap[w1.heap.size + 1]? = some (.cells #[.int .u64 q0, .int .u64 q1] 26 (0, 0))) ∧
    Hid (wr.heap[w.heap.size]? = some (.cells #[.int .u64 0, .int .u64 0] 26 (0, 0))) ∧ Hid (Below w.heap.size w wr) ∧ w1.heap.size + 2 ≤ wr.heap.size)
  case atStart =>
    refine ⟨0, Fnv.prime k, p0, p1, rfl, rfl, rfl, lP, HPr, ?_, ?_, ?_, ?_, ?_⟩
    · show _ = _; exact heap_alloc2_old w1 _ _
    · show _ = _; exact heap_alloc2_new w1 _ _
    · show _ = _; rw [heap_alloc_old _ _ (by simp; omega), heap_alloc_old _ _ (by omega)]; exact f0
    · exact (bw1.alloc (by omega) _).alloc (by simp; omega) _
    · simp
  case round =>
    obtain ⟨i, X, q0, q1, hi, rfl, hX, lX, hwX, hb3, hb4, hb2, hbel, hsz⟩ := hrel
    have c30 : wr.cell? ⟨w1.heap.size, 0, none⟩ = some (.int .u64 p0) := by rw [cell_of_row wr _ 0 _ _ _ hb3.out]; rfl
    have c31 : wr.cell? ⟨w1.heap.size, 1, none⟩ = some (.int .u64 p1) := by rw [cell_of_row wr _ 1 _ _ _ hb3.out]; rfl
    have c40 : wr.cell? ⟨w1.heap.size + 1, 0, none⟩ = some (.int .u64 q0) := by rw [cell_of_row wr _ 0 _ _ _ hb4.out]; rfl
    have c41 : wr.cell? ⟨w1.heap.size + 1, 1, none⟩ = some (.int .u64 q1) := by rw [cell_of_row wr _ 1 _ _ _ hb4.out]; rfl
    have HI := Lib.hid hi
    have hi6 : i ≤ 6 := by omega
    clear hi
    by_cases hlt : i < 6
    · obtain ⟨Y, eY⟩ : ∃ Y, Y = Fnv.prime k * X % Fnv.md k := ⟨_, rfl⟩
      have lY : Y < 340282366920938463463374607431768211456 := by rw [eY]; exact Nat.lt_of_lt_of_le (Nat.mod_lt _ pM) lM
      have HT1 := times_any k hk (Fnv.prime k) X lP lX wr
      rw [← eY, hwX.out, HPr.out] at HT1
      obtain ⟨u, eu⟩ : ∃ u, u = Y / 18446744073709551616 := ⟨_, rfl⟩
      obtain ⟨v, ev⟩ : ∃ v, v = Y % 18446744073709551616 := ⟨_, rfl⟩
      rw [show wv Y = .agg #[.int .u64 (u : Int), .int .u64 (v : Int)] by rw [eu, ev, wv]] at HT1
      have ss1 : ∀ w : World, (callFunc 24 #[.int .u64 2, .int .u64 (v : Int), .int .u64 0]).run Tryz.prog w = .ok (.value (.tuple #[.int .u64 (((2 + 18446744073709551616 - v - 0) % 18446744073709551616 : Nat) : Int), .int .u64 ((if 2 < v + 0 then 1 else 0 : Nat) : Int)])) w := sub64_call 2 v 0 (by omega)
      obtain ⟨l, el⟩ : ∃ l, l = (2 + 18446744073709551616 - v - 0) % 18446744073709551616 := ⟨_, rfl⟩
      obtain ⟨b, eb⟩ : ∃ b, b = if 2 < v + 0 then 1 else 0 := ⟨_, rfl⟩
      have lb : b ≤ 1 := by split at eb <;> omega
      rw [← el, ← eb] at ss1
      have ss2 : ∀ w : World, (callFunc 24 #[.int .u64 0, .int .u64 (u : Int), .int .u64 (b : Int)]).run Tryz.prog w = .ok (.value (.tuple #[.int .u64 (((0 + 18446744073709551616 - u - b) % 18446744073709551616 : Nat) : Int), .int .u64 ((if 0 < u + b then 1 else 0 : Nat) : Int)])) w := sub64_call 0 u b lb
      obtain ⟨h, eh⟩ : ∃ h, h = (0 + 18446744073709551616 - u - b) % 18446744073709551616 := ⟨_, rfl⟩
      obtain ⟨b2, eb2⟩ : ∃ b2, b2 = if 0 < u + b then 1 else 0 := ⟨_, rfl⟩
      rw [← eh, ← eb2] at ss2
      have htl := two_less Y u v lY eu ev l h b el eb eh
      have ll : l < 18446744073709551616 := by omega
      have lh : h < 18446744073709551616 := by omega
      have HCUT := cut_eq hk h l lh ll
      rw [htl] at HCUT
      have HS1 := Lib.hid ss1
      have HS2 := Lib.hid ss2
      have HCU := Lib.hid HCUT
      have HTT := Lib.hid HT1
      have HY := Lib.hid eY
      clear eY eu ev el eb eh eb2 ss1 ss2 htl HCUT HT1
      go_wp2_with fail
      refine HTT.out.mono ?_
      rintro e w2 ⟨rfl, hbw2⟩
      have z2 := hbw2.size
      have d3 : w2.heap[w1.heap.size]? = some (.cells #[.int .u64 p0, .int .u64 p1] 26 (0, 0)) := by rw [hbw2.block _ (by omega)]; exact hb3.out
      have d4 : w2.heap[w1.heap.size + 1]? = some (.cells #[.int .u64 q0, .int .u64 q1] 26 (0, 0)) := by rw [hbw2.block _ (by omega)]; exact hb4.out
      have d2 : w2.heap[w.heap.size]? = some (.cells #[.int .u64 0, .int .u64 0] 26 (0, 0)) := by rw [hbw2.block _ (by omega)]; exact hb2.out
      have bw2 : Below w.heap.size w w2 := hbel.out.trans (hbw2.mono (by omega))
      clear hbw2 c30 c31 c40 c41
      go_wp2_with (simp only [HS1.out, HS2.out])
      obtain ⟨V, hV⟩ : ∃ V, w2.alloc (.cells #[.int .u64 (u : Int), .int .u64 (v : Int)] 26) = V := ⟨_, rfl⟩
      have sv : V.heap.size = w2.heap.size + 1 := by subst hV; simp
      have v3 : V.heap[w1.heap.size]? = some (.cells #[.int .u64 p0, .int .u64 p1] 26 (0, 0)) := by subst hV; rw [heap_alloc_old _ _ (by omega)]; exact d3
      have v4 : V.heap[w1.heap.size + 1]? = some (.cells #[.int .u64 q0, .int .u64 q1] 26 (0, 0)) := by subst hV; rw [heap_alloc_old _ _ (by omega)]; exact d4
      have v2 : V.heap[w.heap.size]? = some (.cells #[.int .u64 0, .int .u64 0] 26 (0, 0)) := by subst hV; rw [heap_alloc_old _ _ (by omega)]; exact d2
      have bV : Below w.heap.size w V := by subst hV; exact bw2.alloc (by omega) _
      rw [hV]
      clear hV d2 d3 d4 bw2
      obtain ⟨CC, eCC⟩ : ∃ P : Value, P = wp (cuth k h) (cutl k l) := ⟨_, rfl⟩
      have k0 : V.cell? ⟨w1.heap.size + 1, 0, none⟩ = some (.int .u64 q0) := by rw [cell_of_row V _ 0 _ _ _ v4]; rfl
      have k1 : V.cell? ⟨w1.heap.size + 1, 1, none⟩ = some (.int .u64 q1) := by rw [cell_of_row V _ 1 _ _ _ v4]; rfl
      have HC : Hid (Calls Tryz.prog 23 #[.int .i64 (k : Int), .agg #[.int .u64 (h : Int), .int .u64 (l : Int)]] V.drew fun e w' => e = .returned CC ∧ Below V.heap.size V w' ∧ w'.cell? ⟨w1.heap.size + 1, 0, none⟩ = some (.int .u64 q0) ∧ w'.cell? ⟨w1.heap.size + 1, 1, none⟩ = some (.int .u64 q1)) := by
        refine (cut_any k hk h l lh ll V.drew).mono ?_
        rintro e w' ⟨he, hb⟩
        have hb' : Below V.heap.size V w' := ((Below.refl _ V).drew).trans hb
        exact ⟨by rw [eCC]; exact he, hb', (hb'.cell (show w1.heap.size + 1 < _ by omega)).trans k0, (hb'.cell (show w1.heap.size + 1 < _ by omega)).trans k1⟩
      obtain ⟨X', eX'⟩ : ∃ X', X' = Fnv.seq k (i + 1) := ⟨_, rfl⟩
      obtain ⟨n0, n1, hn⟩ := wide_cells X'
      have HN := Lib.hid hn
      have HX' := Lib.hid eX'
      have lX' : X' < 340282366920938463463374607431768211456 := by rw [eX']; exact Fnv.seq_lt hk _
      have HT : Hid (∀ w', Below V.heap.size V w' → Calls Tryz.prog 16 #[.int .i64 (k : Int), .agg #[.int .u64 q0, .int .u64 q1], CC] w' fun e w'' => e = .returned (.agg #[.int .u64 n0, .int .u64 n1]) ∧ Below V.heap.size V w'' ∧ w''.cell? ⟨w1.heap.size + 1, 0, none⟩ = some (.int .u64 q0) ∧ w''.cell? ⟨w1.heap.size + 1, 1, none⟩ = some (.int .u64 q1) ∧ (∀ j, w''.frozen? ⟨w1.heap.size + 1, j, none⟩ = false)) := fun w' hw' => by
        have h1 := times_any k hk X ((2 + 340282366920938463463374607431768211456 - Y) % 340282366920938463463374607431768211456 % Fnv.md k) lX (Nat.lt_of_lt_of_le (Nat.mod_lt _ pM) lM) w'
        rw [show X * ((2 + 340282366920938463463374607431768211456 - Y) % 340282366920938463463374607431768211456 % Fnv.md k) % Fnv.md k = X' by rw [eX', Fnv.seq, ← hX.out, ← HY.out], hn, ← HCU.out, ← eCC, hwX.out] at h1
        refine h1.mono ?_
        rintro e w'' ⟨he, hb⟩
        have hb' : Below V.heap.size V w'' := hw'.trans (hb.mono hw'.size)
        refine ⟨he, hb', (hb'.cell (show w1.heap.size + 1 < _ by omega)).trans k0, (hb'.cell (show w1.heap.size + 1 < _ by omega)).trans k1, fun j => ?_⟩
        exact frozen_of_row w'' _ j _ _ ((hb'.block _ (by omega)).trans v4)
      have V3 := Lib.hid v3
      have V4 := Lib.hid v4
      have V2 := Lib.hid v2
      clear v3 v4 v2 hn eX' eCC
      go_region_with (first | (go_at_call 23; refine HC.out.mono ?_; rintro e w' ⟨rfl, hbw, kc0, kc1⟩) | (go_at_call 16; refine (HT.out _ (by assumption)).mono ?_; rintro e w' ⟨rfl, hbw, kc0, kc1, kfz⟩))
      all_goals
        have sz' := hbw.size
        have g3 : Hid (w'.heap[w1.heap.size]? = some (.cells #[.int .u64 p0, .int .u64 p1] 26 (0, 0))) := (hbw.block _ (by omega)).trans V3.out
        have g4 : Hid (w'.heap[w1.heap.size + 1]? = some (.cells #[.int .u64 q0, .int .u64 q1] 26 (0, 0))) := (hbw.block _ (by omega)).trans V4.out
        have g2 : Hid (w'.heap[w.heap.size]? = some (.cells #[.int .u64 0, .int .u64 0] 26 (0, 0))) := (hbw.block _ (by omega)).trans V2.out
        have gB : Hid (Below w.heap.size w w') := bV.trans (hbw.mono (by omega))
        clear kc0 kc1 kfz
        go_wp2_with fail
        go_roundg (gk - 1)
      all_goals first
        | (case measure => have := HI.out; omega)
        | (case rel =>
            refine ⟨i + 1, X', n0, n1, by have := HI.out; omega, by go_num, HX', lX', HN, ?_, ?_, ?_, ?_, ?_⟩
            · show (World.setCell (World.setCell w' _ _) _ _).heap[w1.heap.size]? = _
              rw [heap_setCell_other _ _ _ _ (by simp), heap_setCell_other _ _ _ _ (by simp)]
              exact g3.out
            · show (World.setCell (World.setCell w' _ _) _ _).heap[w1.heap.size + 1]? = _
              rw [heap_setCell_same _ _ 1 _ _ _ (heap_setCell_same _ _ 0 _ _ _ g4.out)]
              rfl
            · show (World.setCell (World.setCell w' _ _) _ _).heap[w.heap.size]? = _
              rw [heap_setCell_other _ _ _ _ (by simp; omega), heap_setCell_other _ _ _ _ (by simp; omega)]
              exact g2.out
            · exact (gB.out.setCell (p := ⟨w1.heap.size + 1, 0, none⟩) (by simp; omega) _).setCell (p := ⟨w1.heap.size + 1, 1, none⟩) (by simp; omega) _
            · simp; omega)
    · have hi : i = 6 := by omega
      subst hi
      have hfin : wv (Fnv.inv k) = .agg #[.int .u64 q0, .int .u64 q1] := by
        have h := hX.out
        rw [Fnv.seq_inv hk] at h
        rw [← h]; exact hwX.out
      have HF := Lib.hid hfin
      have d0 : wr.cell? ⟨w.heap.size, 0, none⟩ = some (.int .u64 0) := by rw [cell_of_row wr _ 0 _ _ _ hb2.out]; rfl
      have d1 : wr.cell? ⟨w.heap.size, 1, none⟩ = some (.int .u64 0) := by rw [cell_of_row wr _ 1 _ _ _ hb2.out]; rfl
      have fz : ∀ j, wr.frozen? ⟨w.heap.size, j, none⟩ = false := fun j => frozen_of_row wr _ j _ _ hb2.out
      clear hfin
      go_wp2_with fail
      refine bodyPost_ret (v := .agg #[.int .u64 q0, .int .u64 q1]) (by simp [results, Tryz.results17, go_sem, d0, d1]) rfl ⟨by rw [HF.out], ?_⟩
      exact (hbel.out.setCell (p := ⟨w.heap.size, 0, none⟩) (Nat.le_refl _) _).setCell (p := ⟨w.heap.size, 1, none⟩) (Nat.le_refl _) _

end Go.Proofs.YtaplmdbcjckbkaaGreat

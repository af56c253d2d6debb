/-
  FnShakeRoads: however data are cut into writes and outputs into reads, two outputs of SHAKE of the same data have the same beginning. Condition: what comes in is of bulk at most 1048576 (the statement's own).
-/
import Derived.Test.YtemojkjcnkbpoaaShkD
import Derived.Test.YtemojkjcnkbpoaaSame
import Derived.Shelf.Abstract
namespace Go.Proofs.Ytemojkjcnkbpoaa
open Go.RowKit
open Spo
set_option linter.unusedVariables false

theorem Rd.up' {w w' : World} {A : Option Addr} {bs : List UInt8} (h : Rd w w.heap.size A bs) (hb : Below w.heap.size w w') : Rd w' w'.heap.size A bs := (h.below hb).mono hb.size

/-- joined over the outputs -/
theorem outs_joined (rate : Nat) (s0 : S) (zs : List Int) (N : Nat) (hN : N = tot zs) (hz : zs.length ≤ 1048576) (B : Nat) (g d : Nat) (vs : List Value) (ps : List (List UInt8)) (w : World) (hB : B ≤ w.heap.size) (ho : OwnV 22 w B g d vs) (hp : Pieces w B vs ps) (hf : ps.flatten = sqz kf rate (tot zs) s0) (hl : vs.length ≤ 1048576) :
    Calls Try.prog 4 #[.slice (some ⟨g, 0, none⟩) vs.length d] w fun e w' => ∃ g2 d2, e = .returned (.slice (some ⟨g2, 0, none⟩) N d2) ∧ Own w' w.heap.size g2 d2 (sqz kf rate N s0) ∧ Below w.heap.size w w' := by
  subst hN
  obtain ⟨ls, h1, h2, h3⟩ := pieces_sl hp
  rw [hf] at h3
  have hlen : (flat ls).length = tot zs := by rw [h3, sqz_len]
  have := tot_le zs
  refine (joined_any g 0 vs.length d ls w h1.symm (by omega) (fun i e he => by rw [Nat.zero_add]; exact ho.cell (h2 i e he).1) ho.lt'.2 (fun i e he => (h2 i e he).2) (by omega)).mono ?_
  rintro e w' ⟨g2, d2, he, hown, hb⟩
  rw [hlen] at he
  rw [h3] at hown
  exact ⟨g2, d2, he, hown, hb⟩

theorem ent_due (args : Array Value) (w : World) : (callFunc 6 args).run Try.prog w = .ok (.enter 6 args) w := enters_of Try.func6 (by kernel_rfl) rfl args w

set_option maxRecDepth 100000 in
set_option maxHeartbeats 4000000 in
theorem shakeRoads_walk (b0 : Bool) (A1 : Option Addr) (c1 : Nat) (bs1 : List UInt8) (A2 : Option Addr) (c2 : Nat) (zs2 : List Int) (A3 : Option Addr) (c3 : Nat) (zs3 : List Int) (A4 : Option Addr) (c4 : Nat) (zs4 : List Int) (A5 : Option Addr) (c5 : Nat) (zs5 : List Int) (w : World) (rd1 : Rd w w.heap.size A1 bs1) (lc1 : bs1.length ≤ c1) (lm1 : c1 ≤ 1048576)
    (rd2 : RdI w w.heap.size A2 zs2) (lc2 : zs2.length ≤ c2) (lm2 : c2 ≤ 1048576) (rd3 : RdI w w.heap.size A3 zs3) (lc3 : zs3.length ≤ c3) (lm3 : c3 ≤ 1048576) (rd4 : RdI w w.heap.size A4 zs4) (lc4 : zs4.length ≤ c4) (lm4 : c4 ≤ 1048576) (rd5 : RdI w w.heap.size A5 zs5) (lc5 : zs5.length ≤ c5) (lm5 : c5 ≤ 1048576) :
    Calls Try.prog 3 #[.bool b0, .slice A1 bs1.length c1, .slice A2 zs2.length c2, .slice A3 zs3.length c3, .slice A4 zs4.length c4, .slice A5 zs5.length c5] w fun e w' => e = .returned (.bool true) ∧ Below w.heap.size w w' := by
  obtain ⟨n1, hn1⟩ : ∃ n, n = bs1.length := ⟨_, rfl⟩
  obtain ⟨n2, hn2⟩ : ∃ n, n = zs2.length := ⟨_, rfl⟩
  obtain ⟨n3, hn3⟩ : ∃ n, n = zs3.length := ⟨_, rfl⟩
  obtain ⟨n4, hn4⟩ : ∃ n, n = zs4.length := ⟨_, rfl⟩
  obtain ⟨n5, hn5⟩ : ∃ n, n = zs5.length := ⟨_, rfl⟩
  rw [← hn1] at lc1 ⊢
  rw [← hn2] at lc2 ⊢
  rw [← hn3] at lc3 ⊢
  rw [← hn4] at lc4 ⊢
  rw [← hn5] at lc5 ⊢
  have HN1 := Lib.hid hn1
  have HN2 := Lib.hid hn2
  have HN3 := Lib.hid hn3
  have HN4 := Lib.hid hn4
  have HN5 := Lib.hid hn5
  obtain ⟨X, hX⟩ : ∃ X, X = tot zs3 := ⟨_, rfl⟩
  obtain ⟨Y, hY⟩ : ∃ Y, Y = tot zs5 := ⟨_, rfl⟩
  have hXb := tot_le zs3
  have hYb := tot_le zs5
  rw [← hX, ← hn3] at hXb
  rw [← hY, ← hn5] at hYb
  have HX := Lib.hid hX
  have HY := Lib.hid hY
  obtain ⟨s0, hs0⟩ : ∃ s0, spt (rateB b0) bs1 = s0 := ⟨_, rfl⟩
  have HS0 := Lib.hid hs0
  clear hn1 hn2 hn3 hn4 hn5 hX hY hs0
  have n10 := ent_due
  have tX : ((X : Int) != (X : Int)) = false := by simp
  have tY : ((Y : Int) != (Y : Int)) = false := by simp
  go_enter Try.func3, Try.ntmps3
  go_wp2_with fail
  refine (outputs_any b0 A1 n1 c1 bs1 A2 n2 c2 zs2 A3 n3 c3 zs3 w HN1.out rd1 lc1 lm1 HN2.out rd2 (by omega) HN3.out rd3 (by omega)).mono ?_
  rintro e w1 ⟨g1, d1, vs1, ps1, rfl, o1, p1, f1, v1, b1⟩
  rw [HS0.out] at f1
  have J1 := Lib.hid (outs_joined (rateB b0) s0 zs3 X HX.out (by have := HN3.out; omega) w.heap.size g1 d1 vs1 ps1 w1 b1.size o1 p1 f1 v1)
  clear o1 p1 f1
  obtain ⟨m1, hm1⟩ : ∃ m, m = vs1.length := ⟨_, rfl⟩
  rw [← hm1] at J1 ⊢
  clear hm1 v1
  go_wp2_with fail
  refine J1.out.mono ?_
  rintro e w2 ⟨g2, d2, rfl, o2, b2⟩
  have bw2 : Below w.heap.size w w2 := b1.trans (b2.mono b1.size)
  have r2 := o2.rd
  have hcap2 := o2.caps
  rw [sqz_len] at hcap2
  have z2 := bw2.size
  clear J1 b1 b2 o2
  go_wp2_with fail
  refine (outputs_any b0 A1 n1 c1 bs1 A4 n4 c4 zs4 A5 n5 c5 zs5 w2 HN1.out (rd1.up' bw2) lc1 lm1 HN4.out (RdI.below' rd4 bw2 z2) (by omega) HN5.out (RdI.below' rd5 bw2 z2) (by omega)).mono ?_
  rintro e w3 ⟨g3, d3, vs3, ps3, rfl, o3, p3, f3, v3, b3⟩
  rw [HS0.out] at f3
  have J3 := Lib.hid (outs_joined (rateB b0) s0 zs5 Y HY.out (by have := HN5.out; omega) w2.heap.size g3 d3 vs3 ps3 w3 b3.size o3 p3 f3 v3)
  clear o3 p3 f3
  obtain ⟨m3, hm3⟩ : ∃ m, m = vs3.length := ⟨_, rfl⟩
  rw [← hm3] at J3 ⊢
  clear hm3 v3
  go_wp2_with fail
  refine J3.out.mono ?_
  rintro e w4 ⟨g4, d4, rfl, o4, b4⟩
  have b24 : Below w2.heap.size w2 w4 := b3.trans (b4.mono b3.size)
  have r4 := o4.rd
  have hcap4 := o4.caps
  rw [sqz_len] at hcap4
  have r24 := r2.up' b24
  have bw4 : Below w.heap.size w w4 := bw2.trans (b24.mono z2)
  have z4 := bw4.size
  have D3 := Lib.hid (due_any A3 n3 c3 zs3 w4 HN3.out (RdI.below' rd3 bw4 z4) (by omega))
  have D5 := Lib.hid (due_any A5 n5 c5 zs5 w4 HN5.out (RdI.below' rd5 bw4 z4) (by omega))
  rw [← HX.out] at D3
  rw [← HY.out] at D5
  clear J3 b3 b4 o4 r2 b24 bw2
  go_wp2_with fail
  refine D3.out.mono ?_
  rintro e w5 ⟨rfl, rfl⟩
  go_wp2_with fail
  refine D5.out.mono ?_
  rintro e w6 ⟨rfl, rfl⟩
  obtain ⟨N, hN⟩ : ∃ N, N = min X Y := ⟨_, rfl⟩
  have hNX : N ≤ X := by omega
  have hNY : N ≤ Y := by omega
  have HNN := Lib.hid hN
  clear hN D3 D5
  go_upto_region 5 with (fail)
  go_cut [16] (fun x wc => x = .int .i64 (N : Int) ∧ wc = w6)
  case first =>
    by_cases hc : X ≤ Y
    · obtain rfl : N = X := by have := HNN.out; omega
      go_wp2_with fail
      all_goals (go_meet; refine ⟨?_, rfl⟩; congr 1 <;> omega)
    · obtain rfl : N = Y := by have := HNN.out; omega
      go_wp2_with fail
      all_goals (go_meet; refine ⟨?_, rfl⟩; congr 1 <;> omega)
  case rest =>
    obtain ⟨rfl, rfl⟩ := hcut
    have ra := r24.take N
    have rb := r4.take N
    rw [sqz_take kf (rateB b0) N X s0 hNX] at ra
    rw [sqz_take kf (rateB b0) N Y s0 hNY] at rb
    have CS : Hid (∀ q, Calls Try.prog 7 #[.slice (some ⟨g2, 0, none⟩) N d2, .slice (some ⟨g4, 0, none⟩) N d4] (wc.drewN q) fun e w' => e = .returned (.bool true) ∧ ∃ m, w' = wc.drewN m) := fun q => by
      have h := same_any (some ⟨g2, 0, none⟩) (some ⟨g4, 0, none⟩) N N d2 d4 (sqz kf (rateB b0) N s0) (sqz kf (rateB b0) N s0) wc.heap.size wc.heap.size (wc.drewN q) (by rw [sqz_len]) (by rw [sqz_len]) (ra.drewN q) (rb.drewN q) (by rw [sqz_len]; omega) (by rw [sqz_len]; omega)
      rw [decide_eq_true rfl] at h
      refine h.mono ?_
      rintro e w' ⟨he, k, rfl⟩
      exact ⟨he, _, World.drewN_drewN _ _ _⟩
    have t1 : N ≤ d2 := by omega
    have t2 : N ≤ d4 := by omega
    clear ra rb r24 r4 tX tY
    go_wp2_with fail
    go_quiet ((go_at_call 7; exact CS.out _))
    go_wp2_with fail
    go_ret
    exact ⟨rfl, ⟨bw4.os, bw4.tape, bw4.output, bw4.size, bw4.block⟩⟩

end Go.Proofs.Ytemojkjcnkbpoaa

/-
  FnShortState: a state that lacks its last bytes, one or more, is not loaded, and the hash goes on as if it had not been offered. Condition: what comes in is of bulk at most 1048576 (the statement's own).
-/
import Derived.Test.YtemojkjcnkbpoaaGreatLoadA
import Derived.Test.YtemojkjcnkbpoaaGreatSlc
namespace Go.Proofs.YtemojkjcnkbpoaaGreat
open Go.RowKit
set_option linter.unusedVariables false

theorem Rd.up' {w w' : World} {A : Option Addr} {bs : List UInt8} (h : Rd w w.heap.size A bs) (hb : Below w.heap.size w w') : Rd w' w'.heap.size A bs := (h.below hb).mono hb.size

set_option maxRecDepth 100000 in
set_option maxHeartbeats 4000000 in
theorem shortState_walk (a0 : Int) (A1 : Option Addr) (c1 : Nat) (bs1 : List UInt8) (A2 : Option Addr) (c2 : Nat) (bs2 : List UInt8) (a3 : Int) (A4 : Option Addr) (c4 : Nat) (bs4 : List UInt8) (w : World) (h0 : -9223372036854775808 ≤ a0 ∧ a0 ≤ 9223372036854775807) (rd1 : Rd w w.heap.size A1 bs1) (lc1 : bs1.length ≤ c1) (lm1 : c1 ≤ 1048576) (rd2 : Rd w w.heap.size A2 bs2) (lc2 : bs2.length ≤ c2) (lm2 : c2 ≤ 1048576)
    (h3 : -9223372036854775808 ≤ a3 ∧ a3 ≤ 9223372036854775807) (rd4 : Rd w w.heap.size A4 bs4) (lc4 : bs4.length ≤ c4) (lm4 : c4 ≤ 1048576) :
    Calls Tryz.prog 6 #[.int .i64 a0, .slice A1 bs1.length c1, .slice A2 bs2.length c2, .int .i64 a3, .slice A4 bs4.length c4] w fun e w' => e = .returned (.bool true) ∧ Below w.heap.size w w' := by
  obtain ⟨n1, hn1⟩ : ∃ n, n = bs1.length := ⟨_, rfl⟩
  obtain ⟨n2, hn2⟩ : ∃ n, n = bs2.length := ⟨_, rfl⟩
  obtain ⟨n4, hn4⟩ : ∃ n, n = bs4.length := ⟨_, rfl⟩
  rw [← hn1] at lc1 ⊢
  rw [← hn2] at lc2 ⊢
  rw [← hn4] at lc4 ⊢
  have HN1 := Lib.hid hn1
  have HN2 := Lib.hid hn2
  have HN4 := Lib.hid hn4
  clear hn1 hn2 hn4
  by_cases hr : 0 ≤ a0 ∧ a0 ≤ 10
  · obtain ⟨k, rfl, hk⟩ : ∃ k : Nat, a0 = (k : Int) ∧ k < 11 := ⟨a0.toNat, by omega, by omega⟩
    have IK := Lib.hid (fun w => isKind_any (k : Int) true (decide_eq_true hr).symm w)
    obtain ⟨m, hm⟩ : ∃ m, m = lensA k := ⟨_, rfl⟩
    have hm8 := lensA_le k
    rw [← hm] at hm8
    obtain ⟨L, hL⟩ : ∃ L, L = lenA k := ⟨_, rfl⟩
    have hL4 := lenA_le k
    rw [← hL] at hL4
    have t3 : ((m : Int) == 0) = false := by simp; omega
    have HM := Lib.hid hm
    have HLK := Lib.hid hL
    have hst := stateA_len k hk bs2
    rw [← hm] at hst
    have HST := Lib.hid hst
    clear hr h0 hm hL hst
    by_cases hl1 : a3 < 1
    · go_enter Tryz.func6, Tryz.ntmps6
      go_wp2_with fail
      refine (stateOf_a k hk A2 n2 c2 bs2 w HN2.out rd2 (by have := HN2.out; omega)).mono ?_
      rintro e w1 ⟨g1, d1, rfl, o1, b1⟩
      rw [← HM.out]
      go_wp2_with fail
      refine (IK.out w1).mono ?_
      rintro e w2 ⟨rfl, rfl⟩
      go_wp2_with fail
      go_ret
      exact ⟨rfl, b1⟩
    · obtain ⟨j, hj⟩ : ∃ j : Nat, j = ((m : Int) - a3).toNat := ⟨_, rfl⟩
      have hjm : j < m := by omega
      have hjl : j ≤ m := by omega
      have t4 : ¬ a3 < 1 := hl1
      have hbad : BadA k ((stateA k bs2).take j) := bad_short k hk bs2 j (by rw [← HM.out]; exact hjm)
      have HBAD := Lib.hid hbad
      have HJ := Lib.hid hj
      clear hbad hj hl1
      go_enter Tryz.func6, Tryz.ntmps6
      go_wp2_with fail
      refine (stateOf_a k hk A2 n2 c2 bs2 w HN2.out rd2 (by have := HN2.out; omega)).mono ?_
      rintro e w1 ⟨g0, d0, rfl, o0, b0⟩
      rw [← HM.out]
      go_wp2_with fail
      refine (IK.out w1).mono ?_
      rintro e w2 ⟨rfl, rfl⟩
      have hcap := o0.caps
      have hmd : m ≤ d0 := by have := HST.out; omega
      have hjd : j ≤ d0 := by omega
      have htk : j = ((stateA k bs2).take j).length := by rw [List.length_take, HST.out]; omega
      have LS := Lib.hid (loadState_a k hk A1 n1 c1 bs1 (some ⟨g0, 0, none⟩) j d0 ((stateA k bs2).take j) A4 n4 c4 bs4 w2 HN1.out (rd1.up' b0) (by have := HN1.out; omega) htk (o0.rd.take j) (by omega) HN4.out (rd4.up' b0) (by have := HN4.out; omega) HBAD.out)
      have HB0 := Lib.hid b0
      clear htk o0 b0
      go_upto_region 6 with (fail)
      go_cut [12] (fun x wc => ∃ go g1 d1 g2 d2 g3 d3 : Nat, x = .pointer (some ⟨go, 0, none⟩) ∧ Hid (SR w wc k bs1 bs4 go L g1 d1 g2 d2 g3 d3))
      case first =>
        by_cases hcase : a3 ≤ (m : Int)
        · have u1 : IntKind.i64.wrap ((m : Int) - a3) = (j : Int) := by rw [IntKind.wrap_i64]; have := HJ.out; omega
          have u2 : ¬ (j : Int) < 0 := by omega
          have u3 : (j : Int) ≤ (d0 : Int) := by omega
          clear hcase
          go_wp2_with fail
          all_goals first
            | (refine LS.out.mono ?_
               rintro e w5 ⟨g1, d1, g2, d2, g3, d3, rfl, o1, o2, o3, b5⟩
               rw [← HLK.out]
               have R := Lib.hid (SR.made (L := L) HB0.out b5 o1 o2 o3)
               clear o1 o2 o3 b5
               go_wp2_with fail
               go_meet
               exact ⟨_, _, _, _, _, _, _, rfl, R⟩)
            | trace_state
        · have hj0 : j = 0 := by have := HJ.out; omega
          subst hj0
          have u1 : IntKind.i64.wrap ((m : Int) - a3) = (m : Int) - a3 := by rw [IntKind.wrap_i64]; omega
          have u2 : (m : Int) - a3 < 0 := by omega
          clear hcase
          go_wp2_with fail
          all_goals first
            | (refine LS.out.mono ?_
               rintro e w5 ⟨g1, d1, g2, d2, g3, d3, rfl, o1, o2, o3, b5⟩
               rw [← HLK.out]
               have R := Lib.hid (SR.made (L := L) HB0.out b5 o1 o2 o3)
               clear o1 o2 o3 b5
               go_wp2_with fail
               go_meet
               exact ⟨_, _, _, _, _, _, _, rfl, R⟩)
            | trace_state
      case rest =>
        obtain ⟨go, g1, d1, g2, d2, g3, d3, rfl, hS⟩ := hcut
        clear LS
        obtain ⟨v0, v1, v2, v3⟩ := hS.out.cells
        have lV := hS.out.lt
        have start : Kpa wc.heap.size wc wc.drew := ⟨(Below.refl _ _).drew, Nat.le_refl _⟩
        have HS1 := Lib.hid (fun W => hS.out.after hk HLK.out W)
        have HS2 := Lib.hid (fun gs ds W => hS.out.next hk HLK.out gs ds W)
        obtain ⟨N, hN⟩ : ∃ N, N = (bs1 ++ bs4).length := ⟨_, rfl⟩
        have HJD := Lib.hid (joined_kpa wc A1 A4 n1 c1 n4 c4 N bs1 bs4 HN1.out HN4.out hN (rd1.up' hS.out.bel) (rd4.up' hS.out.bel) (by have := HN1.out; omega) (by have := HN4.out; omega))
        have HSM := Lib.hid (sum_kpa wc k hk L HLK.out N (bs1 ++ bs4) hN (by rw [List.length_append]; have := HN1.out; have := HN4.out; omega))
        have t5 : 0 < L := by omega
        have t6 : decide (0 < L) = true := decide_eq_true t5
        clear hN t3 t4
        go_wp2_with fail
        go_region_held3 (fun w' => (w'.cell? ⟨go, 0, none⟩ = some (.bool true) ∧ w'.cell? ⟨go, 1, none⟩ = some (.slice (some ⟨g1, 0, none⟩) L d1) ∧ w'.cell? ⟨go, 2, none⟩ = some (.slice (some ⟨g2, 0, none⟩) L d2) ∧ w'.cell? ⟨go, 3, none⟩ = some (.slice (some ⟨g3, 0, none⟩) L d3)) ∧ Kpa wc.heap.size wc w')
          (first | exact ⟨⟨v0, v1, v2, v3⟩, start⟩ | (refine Kpa.four v0 v1 v2 v3 lV lV lV lV ?_; first | exact start | assumption | exact Kpa.al start _ | exact Kpa.al (by assumption) _ | exact Kpa.drew (by assumption)))
          (first | (go_at_call 14; refine (HJD.out _ _ ?_ ?_).mono ?_; rfl; (first | exact start | assumption); rintro e w' ⟨gj, dj, rfl, hrj, hkj⟩) | (go_at_call 11; refine (HSM.out _ _ _ (by assumption) (by assumption)).mono ?_; rintro e w' ⟨gs, ds, rfl, hrs, hks⟩) | (go_at_call 12; first | (with_reducible refine (HS1.out _ ?_).mono ?_; (first | exact start | assumption); rintro e w' ⟨rfl, hk1⟩) | (refine (HS2.out _ _ _ (by assumption) (by assumption)).mono ?_; rintro e w' ⟨rfl, hk2⟩)))
        have bfin : Below w.heap.size w w' := hS.out.bel.trans (hk2.bel.mono hS.out.bel.size)
        go_wp2_with fail
        go_ret
        exact ⟨rfl, bfin⟩
  · have IK := Lib.hid (isKind_any a0 false (decide_eq_false hr).symm w)
    have ST := Lib.hid (stateOf_none a0 hr A2 n2 c2 w)
    clear hr
    go_enter Tryz.func6, Tryz.ntmps6
    go_wp2_with fail
    refine ST.out.mono ?_
    rintro e w0 ⟨rfl, rfl⟩
    go_wp2_with fail
    refine IK.out.mono ?_
    rintro e w1 ⟨rfl, rfl⟩
    go_wp2_with fail
    go_ret
    exact ⟨rfl, Below.refl _ _⟩

end Go.Proofs.YtemojkjcnkbpoaaGreat

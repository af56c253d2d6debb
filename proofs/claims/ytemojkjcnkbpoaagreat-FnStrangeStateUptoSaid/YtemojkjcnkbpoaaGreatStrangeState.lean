/-
  FnStrangeState: a state of another kind is not loaded, and the hash goes on as if it had not been offered. Condition: what comes in is of bulk at most 1048576 (the statement's own).
-/
import Derived.Test.YtemojkjcnkbpoaaGreatLoadA
import Derived.Test.YtemojkjcnkbpoaaGreatSlc
namespace Go.Proofs.YtemojkjcnkbpoaaGreat
open Go.RowKit
set_option linter.unusedVariables false

theorem Rd.up' {w w' : World} {A : Option Addr} {bs : List UInt8} (h : Rd w w.heap.size A bs) (hb : Below w.heap.size w w') : Rd w' w'.heap.size A bs := (h.below hb).mono hb.size

set_option maxRecDepth 100000 in
set_option maxHeartbeats 4000000 in
theorem strangeState_walk (a0 : Int) (a1 : Int) (A2 : Option Addr) (c2 : Nat) (bs2 : List UInt8) (A3 : Option Addr) (c3 : Nat) (bs3 : List UInt8) (A4 : Option Addr) (c4 : Nat) (bs4 : List UInt8) (w : World) (h0 : -9223372036854775808 ≤ a0 ∧ a0 ≤ 9223372036854775807) (h1 : -9223372036854775808 ≤ a1 ∧ a1 ≤ 9223372036854775807) (rd2 : Rd w w.heap.size A2 bs2) (lc2 : bs2.length ≤ c2) (lm2 : c2 ≤ 1048576)
    (rd3 : Rd w w.heap.size A3 bs3) (lc3 : bs3.length ≤ c3) (lm3 : c3 ≤ 1048576) (rd4 : Rd w w.heap.size A4 bs4) (lc4 : bs4.length ≤ c4) (lm4 : c4 ≤ 1048576) :
    Calls Tryz.prog 7 #[.int .i64 a0, .int .i64 a1, .slice A2 bs2.length c2, .slice A3 bs3.length c3, .slice A4 bs4.length c4] w fun e w' => e = .returned (.bool true) ∧ Below w.heap.size w w' := by
  obtain ⟨n2, hn2⟩ : ∃ n, n = bs2.length := ⟨_, rfl⟩
  obtain ⟨n3, hn3⟩ : ∃ n, n = bs3.length := ⟨_, rfl⟩
  obtain ⟨n4, hn4⟩ : ∃ n, n = bs4.length := ⟨_, rfl⟩
  rw [← hn2] at lc2 ⊢
  rw [← hn3] at lc3 ⊢
  rw [← hn4] at lc4 ⊢
  have HN2 := Lib.hid hn2
  have HN3 := Lib.hid hn3
  have HN4 := Lib.hid hn4
  clear hn2 hn3 hn4
  by_cases hr : 0 ≤ a0 ∧ a0 ≤ 10
  · have IK := Lib.hid (fun w => isKind_any a0 true (decide_eq_true hr).symm w)
    by_cases hr1 : 0 ≤ a1 ∧ a1 ≤ 10
    · have IK1 := Lib.hid (fun w => isKind_any a1 true (decide_eq_true hr1).symm w)
      by_cases heq : a0 = a1
      · have t1 : (a0 == a1) = true := beq_iff_eq.2 heq
        clear hr hr1 heq
        go_enter Tryz.func7, Tryz.ntmps7
        go_wp2_with (first | (with_reducible refine (IK.out _).mono ?_; rintro e w' ⟨rfl, rfl⟩) | (with_reducible refine (IK1.out _).mono ?_; rintro e w' ⟨rfl, rfl⟩))
        go_ret
        exact ⟨rfl, Below.refl _ _⟩
      · obtain ⟨k, rfl, hk⟩ : ∃ k : Nat, a0 = (k : Int) ∧ k < 11 := ⟨a0.toNat, by omega, by omega⟩
        obtain ⟨j, rfl, hj⟩ : ∃ j : Nat, a1 = (j : Int) ∧ j < 11 := ⟨a1.toNat, by omega, by omega⟩
        have t1 : ((k : Int) == (j : Int)) = false := beq_eq_false_iff_ne.2 heq
        have t2 : (k == j) = false := beq_eq_false_iff_ne.2 (fun e => heq (by rw [e]))
        have hbad : BadA k (stateA j bs3) := bad_other k j hk hj (fun e => heq (by rw [e])) bs3
        obtain ⟨m, hm⟩ : ∃ m, m = lensA j := ⟨_, rfl⟩
        have hm8 := lensA_le j
        rw [← hm] at hm8
        obtain ⟨L, hL⟩ : ∃ L, L = lenA k := ⟨_, rfl⟩
        have hL4 := lenA_le k
        rw [← hL] at hL4
        have HM := Lib.hid hm
        have HLK := Lib.hid hL
        have hst := stateA_len j hj bs3
        rw [← hm] at hst
        have HST := Lib.hid hst
        have HBAD := Lib.hid hbad
        clear hr hr1 h0 h1 hm hL hst hbad heq
        go_enter Tryz.func7, Tryz.ntmps7
        go_upto_region 3 with (first | (with_reducible refine (IK.out _).mono ?_; rintro e w' ⟨rfl, rfl⟩) | (with_reducible refine (IK1.out _).mono ?_; rintro e w' ⟨rfl, rfl⟩))
        go_wp2_with fail
        refine (stateOf_a j hj A3 n3 c3 bs3 _ HN3.out rd3 (by have := HN3.out; omega)).mono ?_
        rintro e w1 ⟨g0, d0, rfl, o0, b0⟩
        rw [← HM.out]
        have hcap := o0.caps
        have hmd : m ≤ d0 := by have := HST.out; omega
        have LS := Lib.hid (loadState_a k hk A2 n2 c2 bs2 (some ⟨g0, 0, none⟩) m d0 (stateA j bs3) A4 n4 c4 bs4 w1 HN2.out (rd2.up' b0) (by have := HN2.out; omega) HST.out.symm o0.rd (by rw [HST.out]; omega) HN4.out (rd4.up' b0) (by have := HN4.out; omega) HBAD.out)
        have HB0 := Lib.hid b0
        clear o0 b0 hcap
        go_wp2_with fail
        refine LS.out.mono ?_
        rintro e w5 ⟨g1, d1, g2, d2, g3, d3, rfl, o1, o2, o3, b5⟩
        rw [← HLK.out]
        have hS := Lib.hid (SR.made (L := L) HB0.out b5 o1 o2 o3)
        obtain ⟨go, hgo⟩ : ∃ go, go = w5.heap.size := ⟨_, rfl⟩
        rw [← hgo] at hS
        clear o1 o2 o3 b5 LS
        go_wp2_with fail
        obtain ⟨wc, hwc⟩ : ∃ wc, w5.alloc (.cells #[.bool true, .slice (some ⟨g1, 0, none⟩) L d1, .slice (some ⟨g2, 0, none⟩) L d2, .slice (some ⟨g3, 0, none⟩) L d3] 29) = wc := ⟨_, rfl⟩
        rw [hwc] at hS ⊢
        rw [← hgo]
        clear hgo hwc
        obtain ⟨v0, v1, v2, v3⟩ := hS.out.cells
        have lV := hS.out.lt
        have start : Kpa wc.heap.size wc wc.drew := ⟨(Below.refl _ _).drew, Nat.le_refl _⟩
        have HS0 := Lib.hid (fun gs ds W => hS.out.before hk HLK.out gs ds W)
        have HS1 := Lib.hid (fun W => hS.out.after hk HLK.out W)
        have HS2 := Lib.hid (fun gs ds W => hS.out.next hk HLK.out gs ds W)
        obtain ⟨N, hN⟩ : ∃ N, N = (bs2 ++ bs4).length := ⟨_, rfl⟩
        have HJD := Lib.hid (joined_kpa wc A2 A4 n2 c2 n4 c4 N bs2 bs4 HN2.out HN4.out hN (rd2.up' hS.out.bel) (rd4.up' hS.out.bel) (by have := HN2.out; omega) (by have := HN4.out; omega))
        have HSM := Lib.hid (sum_kpa wc k hk L HLK.out N (bs2 ++ bs4) hN (by rw [List.length_append]; have := HN2.out; have := HN4.out; omega))
        have rW : Hid (∀ W, Kpa wc.heap.size wc W → Rd W W.heap.size A2 bs2) := fun W hK => ((rd2.up' hS.out.bel).below hK.bel).mono hK.le
        have HSW : Hid (∀ W, Kpa wc.heap.size wc W → Calls Tryz.prog 11 #[.int .i64 (k : Int), .slice A2 n2 c2] W fun e w' => ∃ g ds, e = .returned (.slice (some ⟨g, 0, none⟩) L ds) ∧ Rd w' w'.heap.size (some ⟨g, 0, none⟩) (sumA k bs2) ∧ Kpa wc.heap.size wc w') := fun W hK => sum_kpa wc k hk L HLK.out n2 bs2 HN2.out (by have := HN2.out; omega) A2 c2 W hK (rW.out W hK)
        have t5 : 0 < L := by omega
        have t6 : decide (0 < L) = true := decide_eq_true t5
        have t7 : 0 < m := by omega
        have t8 : decide (0 < m) = true := decide_eq_true t7
        clear hN t1 t2
        go_region_held3 (fun w' => (w'.cell? ⟨go, 0, none⟩ = some (.bool true) ∧ w'.cell? ⟨go, 1, none⟩ = some (.slice (some ⟨g1, 0, none⟩) L d1) ∧ w'.cell? ⟨go, 2, none⟩ = some (.slice (some ⟨g2, 0, none⟩) L d2) ∧ w'.cell? ⟨go, 3, none⟩ = some (.slice (some ⟨g3, 0, none⟩) L d3)) ∧ Kpa wc.heap.size wc w')
          (first | exact ⟨⟨v0, v1, v2, v3⟩, start⟩ | (refine Kpa.four v0 v1 v2 v3 lV lV lV lV ?_; first | exact start | assumption | exact Kpa.al start _ | exact Kpa.al (by assumption) _ | exact Kpa.drew (by assumption)))
          (first | (go_at_call 14; refine (HJD.out _ _ ?_ ?_).mono ?_; rfl; (first | exact start | assumption); rintro e w' ⟨gj, dj, rfl, hrj, hkj⟩) | (go_at_call 11; first | (with_reducible refine (HSW.out _ ?_).mono ?_; (first | exact start | assumption); rintro e w' ⟨gs, ds, rfl, hrs, hks⟩) | (with_reducible refine (HSM.out _ _ _ (by assumption) (by assumption)).mono ?_; rintro e w' ⟨gs, ds, rfl, hrs, hks⟩)) | (go_at_call 12; first | (with_reducible refine (HS1.out _ ?_).mono ?_; (first | exact start | assumption); rintro e w' ⟨rfl, hk1⟩) | (with_reducible refine (HS0.out _ _ _ (by assumption) (by assumption)).mono ?_; rintro e w' ⟨rfl, hk0⟩) | (with_reducible refine (HS2.out _ _ _ (by assumption) (by assumption)).mono ?_; rintro e w' ⟨rfl, hk2⟩)))
        have bfin := hS.out.bel.trans (hk2.bel.mono hS.out.bel.size)
        go_wp2_with fail
        go_ret
        exact ⟨rfl, bfin⟩
    · have IK1 := Lib.hid (fun w => isKind_any a1 false (decide_eq_false hr1).symm w)
      clear hr hr1
      go_enter Tryz.func7, Tryz.ntmps7
      go_wp2_with (first | (with_reducible refine (IK.out _).mono ?_; rintro e w' ⟨rfl, rfl⟩) | (with_reducible refine (IK1.out _).mono ?_; rintro e w' ⟨rfl, rfl⟩))
      go_ret
      exact ⟨rfl, Below.refl _ _⟩
  · have IK := Lib.hid (fun w => isKind_any a0 false (decide_eq_false hr).symm w)
    clear hr
    go_enter Tryz.func7, Tryz.ntmps7
    go_wp2_with (refine (IK.out _).mono ?_; rintro e w' ⟨rfl, rfl⟩)
    go_ret
    exact ⟨rfl, Below.refl _ _⟩

end Go.Proofs.YtemojkjcnkbpoaaGreat

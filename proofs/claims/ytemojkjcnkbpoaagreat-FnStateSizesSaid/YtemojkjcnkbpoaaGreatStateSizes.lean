/-
  FnStateSizes: states of one kind have as many bytes, whatever was written. No condition.
-/
import Derived.Test.YtemojkjcnkbpoaaGreatStA
namespace Go.Proofs.YtemojkjcnkbpoaaGreat
open Go.RowKit
set_option linter.unusedVariables false

theorem Rd.up' {w w' : World} {A : Option Addr} {bs : List UInt8} (h : Rd w w.heap.size A bs) (hb : Below w.heap.size w w') : Rd w' w'.heap.size A bs := (h.below hb).mono hb.size

set_option maxRecDepth 100000 in
set_option maxHeartbeats 2000000 in
theorem stateSizes_walk (a0 : Int) (A1 : Option Addr) (c1 : Nat) (bs1 : List UInt8) (A2 : Option Addr) (c2 : Nat) (bs2 : List UInt8) (w : World) (h0 : -9223372036854775808 ≤ a0 ∧ a0 ≤ 9223372036854775807) (rd1 : Rd w w.heap.size A1 bs1) (lc1 : bs1.length ≤ c1) (lm1 : c1 ≤ 140737488351232) (rd2 : Rd w w.heap.size A2 bs2) (lc2 : bs2.length ≤ c2) (lm2 : c2 ≤ 140737488351232) :
    Calls Tryz.prog 3 #[.int .i64 a0, .slice A1 bs1.length c1, .slice A2 bs2.length c2] w fun e w' => e = .returned (.bool true) ∧ Below w.heap.size w w' := by
  obtain ⟨n, hn⟩ : ∃ n, n = bs1.length := ⟨_, rfl⟩
  obtain ⟨n2, hn2⟩ : ∃ n, n = bs2.length := ⟨_, rfl⟩
  rw [← hn] at lc1 ⊢
  rw [← hn2] at lc2 ⊢
  have HN := Lib.hid hn
  have HN2 := Lib.hid hn2
  clear hn hn2
  by_cases hr : 0 ≤ a0 ∧ a0 ≤ 10
  · obtain ⟨k, rfl, hk⟩ : ∃ k : Nat, a0 = (k : Int) ∧ k < 11 := ⟨a0.toNat, by omega, by omega⟩
    have IK := Lib.hid (isKind_any (k : Int) true (decide_eq_true hr).symm w)
    obtain ⟨m, hm⟩ : ∃ m, m = lensA k := ⟨_, rfl⟩
    have hm8 := lensA_le k
    rw [← hm] at hm8
    have t3 : (0 : Int) < (m : Int) := by omega
    have HM := Lib.hid hm
    clear hr h0 hm
    go_enter Tryz.func3, Tryz.ntmps3
    go_wp2_with fail
    refine IK.out.mono ?_
    rintro e w0 ⟨rfl, rfl⟩
    clear IK
    go_wp2_with fail
    refine (stateOf_a k hk A1 n c1 bs1 w0 HN.out rd1 (by have := HN.out; omega)).mono ?_
    rintro e w1 ⟨g1, d1, rfl, o1, b1⟩
    rw [← HM.out]
    go_wp2_with fail
    refine (stateOf_a k hk A2 n2 c2 bs2 w1 HN2.out (rd2.up' b1) (by have := HN2.out; omega)).mono ?_
    rintro e w2 ⟨g2, d2, rfl, o2, b2⟩
    rw [← HM.out]
    have bw2 : Below w0.heap.size w0 w2 := b1.trans (b2.mono b1.size)
    clear o1 o2 b1 b2
    go_wp2_with fail
    go_ret
    exact ⟨rfl, bw2⟩
  · have IK := Lib.hid (isKind_any a0 false (decide_eq_false hr).symm w)
    clear hr
    go_enter Tryz.func3, Tryz.ntmps3
    go_wp2_with fail
    refine IK.out.mono ?_
    rintro e w0 ⟨rfl, rfl⟩
    go_wp2_with fail
    go_ret
    exact ⟨rfl, Below.refl _ _⟩

end Go.Proofs.YtemojkjcnkbpoaaGreat

/-
  FnStateOfSum: hashes of FNV and of Adler-32 keep nothing but their sum: states are equal just where sums are. No condition.
-/
import Derived.Test.YtemojkjcnkbpoaaGreatStateEnds
namespace Go.Proofs.YtemojkjcnkbpoaaGreat
open Go.RowKit
set_option linter.unusedVariables false

set_option maxRecDepth 100000 in
set_option maxHeartbeats 2000000 in
theorem stateOfSum_walk (a0 : Int) (A1 : Option Addr) (c1 : Nat) (bs1 : List UInt8) (A2 : Option Addr) (c2 : Nat) (bs2 : List UInt8) (w : World) (h0 : -9223372036854775808 ≤ a0 ∧ a0 ≤ 9223372036854775807) (rd1 : Rd w w.heap.size A1 bs1) (lc1 : bs1.length ≤ c1) (lm1 : c1 ≤ 140737488351232) (rd2 : Rd w w.heap.size A2 bs2) (lc2 : bs2.length ≤ c2) (lm2 : c2 ≤ 140737488351232) :
    Calls Tryz.prog 5 #[.int .i64 a0, .slice A1 bs1.length c1, .slice A2 bs2.length c2] w fun e w' => e = .returned (.bool true) ∧ Below w.heap.size w w' := by
  obtain ⟨n, hn⟩ : ∃ n, n = bs1.length := ⟨_, rfl⟩
  obtain ⟨n2, hn2⟩ : ∃ n, n = bs2.length := ⟨_, rfl⟩
  rw [← hn] at lc1 ⊢
  rw [← hn2] at lc2 ⊢
  have HN := Lib.hid hn
  have HN2 := Lib.hid hn2
  clear hn hn2
  by_cases hr0 : a0 < 0
  · have t0 : decide (a0 < 0) = true := decide_eq_true hr0
    go_enter Tryz.func5, Tryz.ntmps5
    go_wp2
    go_ret
    exact ⟨rfl, Below.refl _ _⟩
  by_cases hr2 : a0 > 6
  · have t0 : decide (a0 < 0) = false := decide_eq_false hr0
    have t2 : decide (a0 > 6) = true := decide_eq_true hr2
    go_enter Tryz.func5, Tryz.ntmps5
    go_wp2
    go_ret
    exact ⟨rfl, Below.refl _ _⟩
  obtain ⟨k, rfl, hk⟩ : ∃ k : Nat, a0 = (k : Int) ∧ k < 7 := ⟨a0.toNat, by omega, by omega⟩
  have t0 : decide ((k : Int) < 0) = false := decide_eq_false hr0
  have t2 : decide ((k : Int) > 6) = false := decide_eq_false hr2
  obtain ⟨l, hl⟩ : ∃ l, l = lenK k := ⟨_, rfl⟩
  have hl1 := lenK_le k
  rw [← hl] at hl1
  obtain ⟨hl16, hl4⟩ := hl1
  obtain ⟨m, hm⟩ : ∃ m, m = 4 + l := ⟨_, rfl⟩
  have hm0 : 0 < m := by omega
  have hm20 : m ≤ 20 := by omega
  obtain ⟨B, hB⟩ : ∃ B : Bool, B = decide (sumK k bs1 = sumK k bs2) := ⟨_, rfl⟩
  have hB2 : decide (stateK k bs1 = stateK k bs2) = B := by rw [hB, decide_eq_decide, stateK, stateK, List.append_cancel_left_eq]
  have tB : (B == B) = true := by simp
  have t3 : (0 : Int) < (m : Int) := by omega
  have HL := Lib.hid hl
  have HM := Lib.hid hm
  have HB := Lib.hid hB
  have HB2 := Lib.hid hB2
  have hst : ∀ bs, (stateK k bs).length = m := fun bs => by rw [stateK_len hk, hm, hl]
  have hsu : ∀ bs, (sumK k bs).length = l := fun bs => by rw [sumK_len hk, hl]
  have HST := Lib.hid hst
  have HSU := Lib.hid hsu
  clear hr0 hr2 h0 hl hm hB hB2 hst hsu
  go_enter Tryz.func5, Tryz.ntmps5
  go_wp2_with fail
  refine (stateOf_k k hk A1 n c1 bs1 w HN.out rd1 (by have := HN.out; omega)).mono ?_
  rintro e w1 ⟨g1, d1, rfl, o1, b1⟩
  rw [← HL.out, ← HM.out]
  go_wp2_with fail
  refine (stateOf_k k hk A2 n2 c2 bs2 w1 HN2.out (rd2.up' b1) (by have := HN2.out; omega)).mono ?_
  rintro e w2 ⟨g2, d2, rfl, o2, b2⟩
  rw [← HL.out, ← HM.out]
  have bw2 : Below w.heap.size w w2 := b1.trans (b2.mono b1.size)
  have CS : Hid (Calls Tryz.prog 12 #[.slice (some ⟨g1, 0, none⟩) m d1, .slice (some ⟨g2, 0, none⟩) m d2] w2 fun e w' => e = .returned (.bool B) ∧ ∃ q, w' = w2.drewN q) := by
    have h := same_any (some ⟨g1, 0, none⟩) (some ⟨g2, 0, none⟩) m m d1 d2 (stateK k bs1) (stateK k bs2) w2.heap.size w2.heap.size w2 (HST.out _).symm (HST.out _).symm (o1.rd.up' b2) o2.rd (by rw [HST.out]; omega) (by rw [HST.out]; omega)
    rw [HB2.out] at h
    exact h
  clear o1 o2
  go_wp2_with fail
  refine CS.out.mono ?_
  rintro e w3 ⟨rfl, q3, rfl⟩
  obtain ⟨W3, hW3⟩ : ∃ W3, w2.drewN q3 = W3 := ⟨_, rfl⟩
  have b3 : Below w.heap.size w W3 := by subst hW3; exact ⟨bw2.os, bw2.tape, bw2.output, bw2.size, bw2.block⟩
  rw [hW3]
  clear hW3 CS
  go_wp2_with fail
  refine (sumOf_k k hk A1 n c1 bs1 W3 HN.out (rd1.up' b3) (by have := HN.out; omega)).mono ?_
  rintro e w4 ⟨g4, d4, rfl, o4, b4⟩
  rw [← HL.out]
  have bw4 : Below w.heap.size w w4 := b3.trans (b4.mono b3.size)
  go_wp2_with fail
  refine (sumOf_k k hk A2 n2 c2 bs2 w4 HN2.out (rd2.up' bw4) (by have := HN2.out; omega)).mono ?_
  rintro e w5 ⟨g5, d5, rfl, o5, b5⟩
  rw [← HL.out]
  have bw5 : Below w.heap.size w w5 := bw4.trans (b5.mono bw4.size)
  have CS2 : Hid (Calls Tryz.prog 12 #[.slice (some ⟨g4, 0, none⟩) l d4, .slice (some ⟨g5, 0, none⟩) l d5] w5 fun e w' => e = .returned (.bool B) ∧ ∃ q, w' = w5.drewN q) := by
    have h := same_any (some ⟨g4, 0, none⟩) (some ⟨g5, 0, none⟩) l l d4 d5 (sumK k bs1) (sumK k bs2) w5.heap.size w5.heap.size w5 (HSU.out _).symm (HSU.out _).symm (o4.rd.up' b5) o5.rd (by rw [HSU.out]; omega) (by rw [HSU.out]; omega)
    rw [← HB.out] at h
    exact h
  clear o4 o5
  go_wp2_with fail
  refine CS2.out.mono ?_
  rintro e w6 ⟨rfl, q6, rfl⟩
  go_wp2_with fail
  go_ret
  exact ⟨rfl, ⟨bw5.os, bw5.tape, bw5.output, bw5.size, bw5.block⟩⟩

end Go.Proofs.YtemojkjcnkbpoaaGreat

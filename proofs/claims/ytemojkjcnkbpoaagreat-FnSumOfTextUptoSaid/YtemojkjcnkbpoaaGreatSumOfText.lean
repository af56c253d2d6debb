/-
  FnSumOfText: a hash into which an encoder writes has the sum of the text, however the data are cut. Condition: what comes in is of bulk at most 1048576 (the statement's own).
-/
import Derived.Test.YtemojkjcnkbpoaaGreatSumT
import Derived.Test.YtemojkjcnkbpoaaGreatSame
namespace Go.Proofs.YtemojkjcnkbpoaaGreat
open Go.RowKit
set_option linter.unusedVariables false

theorem Rd.up' {w w' : World} {A : Option Addr} {bs : List UInt8} (h : Rd w w.heap.size A bs) (hb : Below w.heap.size w w') : Rd w' w'.heap.size A bs := (h.below hb).mono hb.size

set_option maxRecDepth 100000 in
set_option maxHeartbeats 2000000 in
theorem sumOfText_walk (a0 : Int) (A1 : Option Addr) (c1 : Nat) (bs1 : List UInt8) (A2 : Option Addr) (c2 : Nat) (zs2 : List Int) (w : World) (h0 : -9223372036854775808 ≤ a0 ∧ a0 ≤ 9223372036854775807) (rd1 : Rd w w.heap.size A1 bs1) (lc1 : bs1.length ≤ c1) (lm1 : c1 ≤ 1048576) (rd2 : RdI w w.heap.size A2 zs2) (lc2 : zs2.length ≤ c2) (lm2 : c2 ≤ 1048576) :
    Calls Tryz.prog 8 #[.int .i64 a0, .slice A1 bs1.length c1, .slice A2 zs2.length c2] w fun e w' => e = .returned (.bool true) ∧ Below w.heap.size w w' := by
  obtain ⟨n, hn⟩ : ∃ n, n = bs1.length := ⟨_, rfl⟩
  obtain ⟨n2, hn2⟩ : ∃ n, n = zs2.length := ⟨_, rfl⟩
  rw [← hn] at lc1 ⊢
  rw [← hn2] at lc2 ⊢
  have HN := Lib.hid hn
  have HN2 := Lib.hid hn2
  clear hn hn2
  by_cases hr : 0 ≤ a0 ∧ a0 ≤ 10
  · obtain ⟨k, rfl, hk⟩ : ∃ k : Nat, a0 = (k : Int) ∧ k < 11 := ⟨a0.toNat, by omega, by omega⟩
    have IK := Lib.hid (isKind_any (k : Int) true (decide_eq_true hr).symm w)
    obtain ⟨m, hm⟩ : ∃ m, m = lenA k := ⟨_, rfl⟩
    have hm8 := lenA_le k
    rw [← hm] at hm8
    have t3 : (0 : Int) < (m : Int) := by omega
    have HM := Lib.hid hm
    have hel := Asc.enc_len bs1
    obtain ⟨le, hle⟩ : ∃ le, le = (Asc.enc bs1).length := ⟨_, rfl⟩
    rw [← hle] at hel
    have HLE := Lib.hid hle
    have HEL := Lib.hid hel
    clear hr h0 hm hle hel
    go_enter Tryz.func8, Tryz.ntmps8
    go_wp2_with fail
    refine IK.out.mono ?_
    rintro e w0 ⟨rfl, rfl⟩
    clear IK
    go_wp2_with fail
    refine (sumOfText_a k hk A1 n c1 bs1 A2 n2 c2 zs2 w0 HN.out rd1 lc1 lm1 HN2.out rd2 (by omega)).mono ?_
    rintro e w1 ⟨g1, d1, rfl, r1, b1⟩
    rw [← HM.out]
    go_wp2_with fail
    refine (impl_encode A1 n c1 bs1 w1 HN.out (rd1.up' b1) (by have := HN.out; omega)).mono ?_
    rintro e w2 ⟨g2, d2, rfl, hd1, hd2, hg1, hg2, r2, b2⟩
    rw [← HLE.out]
    have b12 : Below w0.heap.size w0 w2 := b1.trans (b2.mono b1.size)
    have r12 := r1.up' b2
    clear hd1 hd2 hg1 hg2
    go_wp2_with fail
    refine (sumOf_a k hk (some ⟨g2, 0, none⟩) le d2 (Asc.enc bs1) w2 HLE.out r2 (by have := HLE.out; have := HEL.out; have := HN.out; omega)).mono ?_
    rintro e w3 ⟨g3, d3, rfl, o3, b3⟩
    rw [← HM.out]
    have b13 : Below w0.heap.size w0 w3 := b12.trans (b3.mono b12.size)
    have hsm : m = (sumA k (Asc.enc bs1)).length := by rw [sumA_len k hk, HM.out]
    have CS : Hid (Calls Tryz.prog 12 #[.slice (some ⟨g1, 0, none⟩) m d1, .slice (some ⟨g3, 0, none⟩) m d3] w3 fun e w' => e = .returned (.bool true) ∧ ∃ q, w' = w3.drewN q) := by
      have h := same_any (some ⟨g1, 0, none⟩) (some ⟨g3, 0, none⟩) m m d1 d3 (sumA k (Asc.enc bs1)) (sumA k (Asc.enc bs1)) w3.heap.size w3.heap.size w3 hsm hsm (r12.up' b3) o3.rd (by omega) (by omega)
      rw [decide_eq_true rfl] at h
      exact h
    clear hsm o3 r12 r1 r2
    go_wp2_with fail
    refine CS.out.mono ?_
    rintro e w4 ⟨rfl, q, rfl⟩
    go_wp2_with fail
    go_ret
    exact ⟨rfl, ⟨b13.os, b13.tape, b13.output, b13.size, b13.block⟩⟩
  · have IK := Lib.hid (isKind_any a0 false (decide_eq_false hr).symm w)
    clear hr
    go_enter Tryz.func8, Tryz.ntmps8
    go_wp2_with fail
    refine IK.out.mono ?_
    rintro e w0 ⟨rfl, rfl⟩
    go_wp2_with fail
    go_ret
    exact ⟨rfl, Below.refl _ _⟩

end Go.Proofs.YtemojkjcnkbpoaaGreat

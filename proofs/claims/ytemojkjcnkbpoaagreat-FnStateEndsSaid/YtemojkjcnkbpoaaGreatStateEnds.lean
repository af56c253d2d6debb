/-
  FnStateEnds: the state of a hash of FNV or of Adler-32 ends with its sum. No condition.
-/
import Derived.Test.YtemojkjcnkbpoaaGreatStF
import Derived.Test.YtemojkjcnkbpoaaGreatSame
import Derived.Test.YtemojkjcnkbpoaaGreatSlc
namespace Go.Proofs.YtemojkjcnkbpoaaGreat
open Go.RowKit
set_option linter.unusedVariables false

theorem Rd.up' {w w' : World} {A : Option Addr} {bs : List UInt8} (h : Rd w w.heap.size A bs) (hb : Below w.heap.size w w') : Rd w' w'.heap.size A bs := (h.below hb).mono hb.size

set_option maxRecDepth 100000 in
set_option maxHeartbeats 2000000 in
theorem stateEnds_walk (a0 : Int) (A1 : Option Addr) (c1 : Nat) (bs1 : List UInt8) (w : World) (h0 : -9223372036854775808 ≤ a0 ∧ a0 ≤ 9223372036854775807) (rd1 : Rd w w.heap.size A1 bs1) (lc1 : bs1.length ≤ c1) (lm1 : c1 ≤ 140737488351232) :
    Calls Tryz.prog 4 #[.int .i64 a0, .slice A1 bs1.length c1] w fun e w' => e = .returned (.bool true) ∧ Below w.heap.size w w' := by
  obtain ⟨n, hn⟩ : ∃ n, n = bs1.length := ⟨_, rfl⟩
  rw [← hn] at lc1 ⊢
  have HN := Lib.hid hn
  clear hn
  by_cases hr0 : a0 < 0
  · have t0 : decide (a0 < 0) = true := decide_eq_true hr0
    go_enter Tryz.func4, Tryz.ntmps4
    go_wp2
    go_ret
    exact ⟨rfl, Below.refl _ _⟩
  by_cases hr2 : a0 > 6
  · have t0 : decide (a0 < 0) = false := decide_eq_false hr0
    have t2 : decide (a0 > 6) = true := decide_eq_true hr2
    go_enter Tryz.func4, Tryz.ntmps4
    go_wp2
    go_ret
    exact ⟨rfl, Below.refl _ _⟩
  obtain ⟨k, rfl, hk⟩ : ∃ k : Nat, a0 = (k : Int) ∧ k < 7 := ⟨a0.toNat, by omega, by omega⟩
  have t0 : decide ((k : Int) < 0) = false := decide_eq_false hr0
  have t2 : decide ((k : Int) > 6) = false := decide_eq_false hr2
  obtain ⟨l, hl⟩ : ∃ l, l = lenK k := ⟨_, rfl⟩
  have hl1 := lenK_le k
  rw [← hl] at hl1
  obtain ⟨hl16, hl4⟩ := hl1
  obtain ⟨m, hm⟩ : ∃ m, m = 4 + l := ⟨_, rfl⟩
  have HL := Lib.hid hl
  have HM := Lib.hid hm
  have hml : m - 4 = l := by omega
  have hm4 : l + 4 ≤ m := by omega
  have hm4' : m ≤ l + 4 := by omega
  have hm20 : m ≤ 20 := by omega
  have u1 : (m : Int) - (l : Int) = ((4 : Nat) : Int) := by omega
  clear hr0 hr2 h0 hl hm hml
  go_enter Tryz.func4, Tryz.ntmps4
  go_wp2_with fail
  refine (stateOf_k k hk A1 n c1 bs1 w HN.out rd1 (by have := HN.out; omega)).mono ?_
  rintro e w1 ⟨g1, d1, rfl, o1, b1⟩
  rw [← HL.out, ← HM.out]
  go_wp2_with fail
  refine (sumOf_k k hk A1 n c1 bs1 w1 HN.out (rd1.up' b1) (by have := HN.out; omega)).mono ?_
  rintro e w2 ⟨g2, d2, rfl, o2, b2⟩
  rw [← HL.out]
  have z1 := b1.size
  have bw : Below w.heap.size w w2 := b1.trans (b2.mono z1)
  have hst : (stateK k bs1).length = m := by rw [stateK_len hk, HM.out, HL.out]
  have hsu : (sumK k bs1).length = l := by rw [sumK_len hk, HL.out]
  have hdr : (stateK k bs1).drop 4 = sumK k bs1 := by rw [stateK, List.drop_append_of_le_length (by rw [magicK_len hk]; omega), List.drop_of_length_le (by rw [magicK_len hk]; omega), List.nil_append]
  have hcap := o1.caps
  rw [hst] at hcap
  have r1 : Rd w2 w2.heap.size (some ⟨g1, 4, none⟩) ((stateK k bs1).drop 4) := (o1.rd.up' b2).cut (fun b off e h => by injection e with e; injection e with e1 e2; subst e1; subst e2; rfl)
  rw [hdr] at r1
  have CS : Hid (Calls Tryz.prog 12 #[.slice (some ⟨g1, 4, none⟩) (m - 4) (d1 - 4), .slice (some ⟨g2, 0, none⟩) l d2] w2 fun e w' => e = .returned (.bool true) ∧ ∃ q, w' = w2.drewN q) := by
    have h := same_any (some ⟨g1, 4, none⟩) (some ⟨g2, 0, none⟩) (m - 4) l (d1 - 4) d2 (sumK k bs1) (sumK k bs1) w2.heap.size w2.heap.size w2 (by rw [hsu]; omega) hsu.symm r1 o2.rd (by omega) (by omega)
    rw [decide_eq_true rfl] at h
    exact h
  have t3 : (0 : Int) < (l : Int) := by omega
  have t4 : (l : Int) < (m : Int) := by omega
  clear r1 hst hsu hdr o1 o2 b1 b2 rd1
  go_wp2_with fail
  refine CS.out.mono ?_
  rintro e w3 ⟨rfl, q, rfl⟩
  go_wp2_with fail
  go_ret
  exact ⟨rfl, ⟨bw.os, bw.tape, bw.output, bw.size, bw.block⟩⟩

end Go.Proofs.YtemojkjcnkbpoaaGreat

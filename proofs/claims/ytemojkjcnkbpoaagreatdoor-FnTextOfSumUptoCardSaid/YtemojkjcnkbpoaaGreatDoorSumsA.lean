/-
  impl.SumsOf and laws.sumsOf at all kinds. Condition: at most 1048576 cuts, and the lengths' bounds.
-/
import Derived.Test.YtemojkjcnkbpoaaGreatDoorSumsK
import Derived.Test.YtemojkjcnkbpoaaGreatDoorSumA
import Derived.Test.YtemojkjcnkbpoaaGreatDoorTosP
namespace Go.Proofs.YtemojkjcnkbpoaaGreatDoor
open Go.RowKit
set_option linter.unusedVariables false

theorem allH (k : Nat) (hk : k < 11) : ∃ tw fW fS St, HK Tryz.prog 17 (k : Int) tw fW fS St (sumA k) := by
  by_cases h7 : k < 7
  · have e1 : sumA k = sumK k := funext fun bs => if_pos h7
    rw [e1]
    rcases kinds7 h7 with rfl | rfl | rfl | rfl | rfl | rfl | rfl
    · exact ⟨_, _, _, _, hk_0⟩
    · exact ⟨_, _, _, _, hk_1⟩
    · exact ⟨_, _, _, _, hk_2⟩
    · exact ⟨_, _, _, _, hk_3⟩
    · exact ⟨_, _, _, _, hk_4⟩
    · exact ⟨_, _, _, _, hk_5⟩
    · exact ⟨_, _, _, _, hk_6⟩
  · have e1 : sumA k = sumS (rateA k) (outA k) := funext fun bs => if_neg h7
    rw [e1]
    rcases kinds4 hk h7 with rfl | rfl | rfl | rfl
    · exact ⟨_, _, _, _, hk_7⟩
    · exact ⟨_, _, _, _, hk_8⟩
    · exact ⟨_, _, _, _, hk_9⟩
    · exact ⟨_, _, _, _, hk_10⟩

/-- the sums behind each piece, as laws.sumsOf hands them on -/
structure SO (w' : World) (g m k : Nat) (bs : List UInt8) : Prop where
  row : ∀ i, i < m + 1 → ∃ gi di x, w'.cell? ⟨g, 1 + i, none⟩ = some (.slice (some ⟨gi, 0, none⟩) (lenA k) di) ∧ lenA k ≤ di ∧ di ≤ 9223372036854775807 ∧ Rd w' w'.heap.size (some ⟨gi, 0, none⟩) x ∧ x.length = lenA k ∧ (i = m → x = sumA k bs)
  lt : g < w'.heap.size

theorem slice_row1 (g n c : Nat) (hn : 2 ≤ n) (hc : n ≤ c) (W : World) : (Instr.sliceAt 25 (.slice (some ⟨g, 0, none⟩) n c) (some (.int .i64 1)) none none).run Tryz.prog W = .ok (.slice (some ⟨g, 1, none⟩) (n - 1) (c - 1)) W := by
  have e : (Instr.sliceAt 25 (.slice (some ⟨g, 0, none⟩) n c) (some (.int .i64 1)) none none).run Tryz.prog W = (Instr.slice 25 (.slice (some ⟨g, 0, none⟩) n c) (some (.int .i64 ((1 : Nat) : Int))) none none).run Tryz.prog W := by
    simp [Instr.sliceAt, run_underlying Tryz.underlying25]
  have hsz : ∀ W, (sizeOf 22).run Tryz.prog W = .ok 1 W := fun _ => by kernel_rfl
  have h1 : (1 : Int) ≤ (n : Int) := by omega
  have h2 : ¬ c = 1 := by omega
  rw [e]
  simp [Instr.slice, run_underlying Tryz.underlying25, Instr.sliceBounds, Instr.sliceBound, hsz, asIntOf, Result.andThen, Addr.add]
  rw [if_pos h1]
  simp only [if_neg h2]
  rfl

set_option maxRecDepth 100000 in
set_option maxHeartbeats 2000000 in
theorem sumsOfL_any (k : Nat) (hk : k < 11) (A : Option Addr) (n c : Nat) (bs : List UInt8) (A2 : Option Addr) (m c2 : Nat) (zs : List Int) (w : World) (hn : n = bs.length) (h : Rd w w.heap.size A bs) (hnc : n ≤ c) (hc : c ≤ 140737488351232) (hm : m = zs.length) (h2 : RdI w w.heap.size A2 zs) (hml : m ≤ 1048576) :
    Calls Tryz.prog 5 #[.int .i64 (k : Int), .slice A n c, .slice A2 m c2] w fun e w' => ∃ g d, e = .returned (.slice (some ⟨g, 1, none⟩) (m + 1) d) ∧ m + 1 ≤ d ∧ SO w' g m k bs ∧ Below w.heap.size w w' := by
  obtain ⟨tw, fW, fS, St, K⟩ := allH k hk
  have X := Lib.hid (sumsOf_hk K A n c bs A2 m c2 zs w hn h hnc hc hm h2 hml)
  have HM := Lib.hid hm
  clear hn h hm h2 K
  go_enter Tryz.func5, Tryz.ntmps5
  go_wp2_with fail
  refine X.out.mono ?_
  rintro e w1 ⟨g, d, vs, rfl, o, p, b⟩
  have hvl : vs.length = m + 2 := by rw [p.1, List.length_cons, sumsFrom_len, pcs_len, HM.out]
  have hcap : vs.length ≤ d := by
    rcases o.2 with ⟨e, _⟩ | ⟨g', c', cur, e, _, _, h1, _⟩
    · cases e
    · injection e with _ _ e3
      subst e3
      simpa using h1
  have hSO : SO w1 g m k bs := by
    refine ⟨fun i hi => ?_, o.lt'.2⟩
    obtain ⟨v, hv⟩ : ∃ v, vs[i + 1]? = some v := ⟨_, List.getElem?_eq_getElem (by omega)⟩
    obtain ⟨x, hx⟩ : ∃ x, (sumsFrom (sumA k) [] (pcs bs zs))[i]? = some x := ⟨_, List.getElem?_eq_getElem (by rw [sumsFrom_len, pcs_len, ← HM.out]; omega)⟩
    have hp := p.2 (i + 1) v x hv (by rw [List.getElem?_cons_succ]; exact hx)
    obtain ⟨y, hy⟩ := sumsFrom_get _ _ _ _ _ hx
    have hxl : x.length = lenA k := by rw [hy, sumA_len k hk]
    obtain ⟨gi, di, cs, rfl, _, _, hpd, hdm, _⟩ := id hp
    rw [hxl] at hpd hv
    refine ⟨gi, di, x, ?_, hpd, by simp only [maxLen] at hdm; omega, hp.rd, hxl, fun e => ?_⟩
    · rw [Nat.add_comm]; exact o.cell hv
    · subst e
      have := sumsFrom_last (sumA k) [] (pcs bs zs) i (by rw [pcs_len, HM.out])
      rw [hx, pcs_flat, List.nil_append] at this
      injection this
  rw [hvl]
  have hs := slice_row1 g (m + 2) d (by omega) (by omega)
  have e2 : m + 2 - 1 = m + 1 := by omega
  rw [e2] at hs
  have t1 : (((m + 2 : Nat) : Int) == 0) = false := by simp; omega
  have hd1 : m + 1 ≤ d - 1 := by omega
  have HSO := Lib.hid hSO
  have HB := Lib.hid b
  clear hvl hSO b o p X e2 hcap
  obtain ⟨m2, hm2⟩ : ∃ q, q = m + 2 := ⟨_, rfl⟩
  rw [← hm2] at hs t1 ⊢
  clear hm2
  go_wp2_with fail
  go_ret
  exact ⟨g, d - 1, rfl, hd1, HSO.out, HB.out⟩

end Go.Proofs.YtemojkjcnkbpoaaGreatDoor

/-
  FnTextOfSum: the text of a sum is decoded to the sum, and has a character for each group that is 0 and five for the others. Condition: what comes in is of bulk at most 1048576 (the statement's own); errors.errorType holds what the row lists.
-/
import Derived.Test.YtemojkjcnkbpoaaGreatDoorSumsA
import Derived.Test.YtemojkjcnkbpoaaGreatDoorImp
import Derived.Test.YtemojkjcnkbpoaaGreatDoorImpD
import Derived.Test.YtemojkjcnkbpoaaGreatDoorDecQ
import Derived.Test.YtemojkjcnkbpoaaGreatDoorGroup
import Derived.Test.YtemojkjcnkbpoaaGreatDoorKpa
import Derived.Test.YtemojkjcnkbpoaaGreatDoorDoorLaid
import Derived.Lib.SlBytesRow
namespace Go.Proofs.YtemojkjcnkbpoaaGreatDoor
open Go.RowKit
set_option linter.unusedVariables false

theorem Rd.up' {w w' : World} {A : Option Addr} {bs : List UInt8} (h : Rd w w.heap.size A bs) (hb : Below w.heap.size w w') : Rd w' w'.heap.size A bs := (h.below hb).mono hb.size
theorem lenA_four (k : Nat) : ∃ q, lenA k = 4 * q ∧ 1 ≤ q ∧ q ≤ 16 := by
  unfold lenA lenK outA
  split
  · split <;> first | exact ⟨1, rfl, by omega, by omega⟩ | exact ⟨2, rfl, by omega, by omega⟩ | exact ⟨4, rfl, by omega, by omega⟩
  · split <;> first | exact ⟨7, rfl, by omega, by omega⟩ | exact ⟨8, rfl, by omega, by omega⟩ | exact ⟨12, rfl, by omega, by omega⟩ | exact ⟨16, rfl, by omega, by omega⟩

theorem SO.below {w w' : World} {g m k : Nat} {bs : List UInt8} (h : SO w g m k bs) (hb : Below w.heap.size w w') : SO w' g m k bs := by
  refine ⟨fun i hi => ?_, Nat.lt_of_lt_of_le h.lt hb.size⟩
  obtain ⟨gi, di, x, h1, h2, h3, h4, h5, h6⟩ := h.row i hi
  exact ⟨gi, di, x, (hb.cell (p := ⟨g, 1 + i, none⟩) h.lt).trans h1, h2, h3, h4.up' hb, h5, h6⟩

theorem slice_mid (b o n c p : Nat) (h : p + 4 ≤ c) (W : World) : (Instr.sliceAt 22 (.slice (some ⟨b, o, none⟩) n c) (some (.int .i64 (p : Int))) (some (.int .i64 ((p : Int) + 4))) none).run Tryz.prog W = .ok (.slice (some ⟨b, o + p, none⟩) 4 (c - p)) W := by
  have e : (Instr.sliceAt 22 (.slice (some ⟨b, o, none⟩) n c) (some (.int .i64 (p : Int))) (some (.int .i64 ((p : Int) + 4))) none).run Tryz.prog W = (Instr.slice 22 (.slice (some ⟨b, o, none⟩) n c) (some (.int .i64 (p : Int))) (some (.int .i64 ((p + 4 : Nat) : Int))) none).run Tryz.prog W := by
    simp [Instr.sliceAt, run_underlying Tryz.underlying22]
  have hsz : ∀ W, (sizeOf 5).run Tryz.prog W = .ok 1 W := fun _ => by kernel_rfl
  rw [e, Lib.run_slice_window W 22 5 Tryz.underlying22 hsz b o n c p (p + 4) (by omega) h]
  have e4 : p + 4 - p = 4 := by omega
  rw [e4]

theorem room_four (L T q : Nat) (x : List UInt8) (h1 : x.length = L) (h2 : L = 4 * q) (h0 : 1 ≤ q) (hT : T = (Asc.enc x).length) : roomN (L : Int) T = L := by
  have := Asc.groups_le x
  unfold roomN
  rw [if_neg (by omega), if_pos (by omega)]
  omega

set_option maxRecDepth 100000 in
set_option maxHeartbeats 8000000 in
theorem textOfSum_walk (a0 : Int) (A1 : Option Addr) (c1 : Nat) (bs1 : List UInt8) (A2 : Option Addr) (c2 : Nat) (zs2 : List Int) (w : World) (h0 : -9223372036854775808 ≤ a0 ∧ a0 ≤ 9223372036854775807) (rd1 : Rd w w.heap.size A1 bs1) (lc1 : bs1.length ≤ c1) (lm1 : c1 ≤ 1048576) (rd2 : RdI w w.heap.size A2 zs2) (lc2 : zs2.length ≤ c2) (lm2 : c2 ≤ 1048576)
    (hlaid : w.cell? ⟨0, 0, none⟩ = some (.iface 75 (.agg #[.pointer (some ⟨1, 39, none⟩)]))) :
    Calls Tryz.prog 3 #[.int .i64 a0, .slice A1 bs1.length c1, .slice A2 zs2.length c2] w fun e w' => e = .returned (.bool true) ∧ Below w.heap.size w w' := by
  clear hlaid
  obtain ⟨n, hn⟩ : ∃ n, n = bs1.length := ⟨_, rfl⟩
  obtain ⟨m, hm⟩ : ∃ n, n = zs2.length := ⟨_, rfl⟩
  rw [← hn] at lc1 ⊢
  rw [← hm] at lc2 ⊢
  have HN := Lib.hid hn
  have HM := Lib.hid hm
  clear hn hm
  by_cases hr : 0 ≤ a0 ∧ a0 ≤ 10
  case neg =>
    have IK := Lib.hid (isKind_any a0 false (decide_eq_false hr).symm w)
    clear hr
    go_enter Tryz.func3, Tryz.ntmps3
    go_wp2_with fail
    refine IK.out.mono ?_
    rintro e w0 ⟨rfl, rfl⟩
    go_wp2_with fail
    go_ret
    exact ⟨rfl, Below.refl _ _⟩
  case pos =>
  obtain ⟨k, rfl, hk⟩ : ∃ k : Nat, a0 = (k : Int) ∧ k < 11 := ⟨a0.toNat, by omega, by omega⟩
  have IK := Lib.hid (isKind_any (k : Int) true (decide_eq_true hr).symm w)
  obtain ⟨q, hLq, hq1, hq2⟩ := lenA_four k
  obtain ⟨L, hL⟩ : ∃ L, L = lenA k := ⟨_, rfl⟩
  rw [← hL] at hLq
  have HLK := Lib.hid hL
  have HLQ := Lib.hid hLq
  have L4 : 4 ≤ L := by omega
  have L64 : L ≤ 64 := by omega
  clear hr h0 hL
  go_enter Tryz.func3, Tryz.ntmps3
  go_wp2_with fail
  refine IK.out.mono ?_
  rintro e w0 ⟨rfl, rfl⟩
  clear IK
  go_wp2_with fail
  refine (sumsOfL_any k hk A1 n c1 bs1 A2 m c2 zs2 w0 HN.out rd1 lc1 (by omega) HM.out rd2 (by omega)).mono ?_
  rintro e w1 ⟨g, d, rfl, hmd, hSO, hb1⟩
  have HSO := Lib.hid hSO
  have HB1 := Lib.hid hb1
  have tL : (L : Int).tmod 4 = 0 := by rw [Int.tmod_eq_emod_of_nonneg (by omega)]; omega
  have tm : (((m : Int) + 1) != ((m : Int) + 1)) = false := by simp
  obtain ⟨M, hM⟩ : ∃ M, M = m + 1 := ⟨_, rfl⟩
  have HMM := Lib.hid hM
  have hMb : M ≤ 1048577 := by omega
  have tM : (m : Int) + 1 = (M : Int) := by omega
  rw [← hM] at hmd ⊢
  have tM2 : ((M : Int) != (M : Int)) = false := by simp
  clear hSO hb1 hLq hM tm
  go_wp2_with fail
  clear tM tM2
  go_loopg [29] M (fun gk ix wr => ∃ i : Nat, i + gk = M ∧ ix = .int .i64 (i : Int) ∧ Hid (Below w1.heap.size w1 wr))
  case atStart => exact ⟨0, by omega, rfl, Below.refl _ _⟩
  case round =>
    obtain ⟨i, hi, rfl, hbel⟩ := hrel
    have HI := Lib.hid hi
    have hiM : i ≤ M := by omega
    clear hi
    by_cases hlt : i < M
    · obtain ⟨gi, di, x, hc, hLd, hdm, hrx, hxl, -⟩ := (HSO.out.below hbel.out).row i (by have := HMM.out; omega)
      rw [← HLK.out] at hc hLd hxl
      have HRX := Lib.hid hrx
      have HXL := Lib.hid hxl
      clear hrx hxl
      go_wp2_with fail
      refine (impl_encode (some ⟨gi, 0, none⟩) L di x wr HXL.out.symm HRX.out (by have := HXL.out; omega)).mono ?_
      rintro e w2 ⟨g2, d2, rfl, hd1, hd2, hg1, hg2, r2, b2⟩
      have hde := due_enc q x (by have := HXL.out; have := HLQ.out; omega)
      rw [hde] at hd1 ⊢
      have hdl := due_le x
      obtain ⟨T, hT⟩ : ∃ T, T = dueOf x := ⟨_, rfl⟩
      rw [← hT] at hd1 hdl ⊢
      have HT := Lib.hid hT
      have HTE : Hid (T = (Asc.enc x).length) := by show _ = _; rw [hT, hde]
      have hT320 : T ≤ 320 := by have := HXL.out; omega
      have rx2 := HRX.out.up' b2
      have bw2 : Below w1.heap.size w1 w2 := hbel.out.trans (b2.mono hbel.out.size)
      have HRX2 := Lib.hid rx2
      have HR2 := Lib.hid r2
      have HB2 := Lib.hid bw2
      clear hde hdl hT r2 b2 rx2 bw2 hg1 hg2
      go_wp2_with fail
      go_loopg [11, 12] q (fun gq sv iv wx => ∃ j p t : Nat, j + gq = q ∧ Hid (p = 4 * j) ∧ iv = .int .i64 (p : Int) ∧ sv = .int .i64 (t : Int) ∧ Hid (t + dueOf (x.drop p) = T) ∧ ∃ y, wx = w2.drewN y)
      case atStart => exact ⟨0, 0, 0, by omega, rfl, rfl, rfl, by show _ = _; rw [List.drop_zero, Nat.zero_add]; exact HT.out.symm, 0, rfl⟩
      case round =>
        obtain ⟨j, p, t, hj, hp, rfl, rfl, ht, y, rfl⟩ := hrel
        have HJ := Lib.hid hj
        have hjq : j ≤ q := by omega
        have htT : t ≤ 320 := by have := ht.out; omega
        clear hj
        by_cases hjl : j < q
        · have hpL : p + 4 ≤ L := by have := hp.out; have := HLQ.out; omega
          obtain ⟨xa, h0⟩ : ∃ a, x[p]? = some a := ⟨_, List.getElem?_eq_getElem (by have := HXL.out; omega)⟩
          obtain ⟨xb, h1⟩ : ∃ a, x[p + 1]? = some a := ⟨_, List.getElem?_eq_getElem (by have := HXL.out; omega)⟩
          obtain ⟨xc, h2⟩ : ∃ a, x[p + 2]? = some a := ⟨_, List.getElem?_eq_getElem (by have := HXL.out; omega)⟩
          obtain ⟨xd, h3⟩ : ∃ a, x[p + 3]? = some a := ⟨_, List.getElem?_eq_getElem (by have := HXL.out; omega)⟩
          have hst := due_step h0 h1 h2 h3
          have ht' := ht.out
          rw [hst, ← Nat.add_assoc] at ht'
          have cell : ∀ (i : Nat) (z : UInt8), x[i]? = some z → (w2.drewN y).cell? ⟨gi, i, none⟩ = some (.int .u8 (z.toNat : Int)) := fun i z hz => by
            rcases HRX2.out with e | ⟨b', o', e, hb', hc'⟩
            · rw [e] at hz; simp at hz
            · injection e with e; injection e with e1 e2; subst e1; subst e2
              have := hc' i z hz
              rw [Nat.zero_add] at this
              exact this
          have GR := Lib.hid (group_any gi p 4 (di - p) xa xb xc xd (w2.drewN y) (Nat.le_refl _) (cell p xa h0) (cell (p + 1) xb h1) (cell (p + 2) xc h2) (cell (p + 3) xd h3))
          have hsl := fun W => slice_mid gi 0 L di p (by omega) W
          simp only [Nat.zero_add] at hsl
          obtain ⟨B, hB⟩ : ∃ B, B = Asc.be4 xa xb xc xd := ⟨_, rfl⟩
          rw [← hB] at GR ht'
          have HTN := Lib.hid ht'
          have t1 : (p : Int) + 4 ≤ (L : Int) := by omega
          clear cell h0 h1 h2 h3 hst ht' hB
          by_cases hB0 : B = 0
          · subst hB0
            go_wp2_with fail
            refine GR.out.mono ?_
            rintro e w3 ⟨rfl, y2, rfl⟩
            go_wp2_with fail
            go_roundg (gk - 1)
            case measure => have := HJ.out; omega
            case rel =>
              refine ⟨j + 1, p + 4, t + 1, by have := HJ.out; omega, ?_, by go_num, by go_num, ?_, _, rfl⟩
              · show _ = _; have := hp.out; omega
              · have := HTN.out; (first | rw [if_pos rfl] at this | rw [if_pos trivial] at this); exact this
          · have t2 : ((B : Int) == 0) = false := by simp; omega
            go_wp2_with fail
            refine GR.out.mono ?_
            rintro e w3 ⟨rfl, y2, rfl⟩
            go_wp2_with fail
            go_roundg (gk - 1)
            case measure => have := HJ.out; omega
            case rel =>
              refine ⟨j + 1, p + 4, t + 5, by have := HJ.out; omega, ?_, by go_num, by go_num, ?_, _, rfl⟩
              · show _ = _; have := hp.out; omega
              · have := HTN.out; rw [if_neg hB0] at this; exact this
        · obtain rfl : j = q := by omega
          have hpL : ¬ (p : Int) + 4 ≤ (L : Int) := by have := hp.out; have := HLQ.out; omega
          have hpb : p ≤ 64 := by have := hp.out; omega
          have ht' := ht.out
          rw [due_nil (by have := hp.out; have := HLQ.out; have := HXL.out; omega), Nat.add_zero] at ht'
          obtain rfl : T = t := ht'.symm
          have hRN := room_four L T j x HXL.out HLQ.out hq1 HTE.out
          have ID := Lib.hid (impl_decode (some ⟨g2, 0, none⟩) T d2 (Asc.enc x) true (L : Int) (w2.drewN y) HTE.out (HR2.out.drewN y) (by omega) (by rw [hRN]; omega) ⟨by omega, by omega⟩ x T (by
            rw [hRN, HTE.out]
            exact Asc.dec_all x 0 0 [] (by have := HXL.out; have := HLQ.out; simp only [List.length_nil]; omega)))
          rw [hRN, HXL.out] at ID
          clear hRN ht
          go_wp2_with fail
          refine ID.out.mono ?_
          rintro e w3 ⟨g3, rfl, -, -, -, r3, b3⟩
          have hxg : Rd w3 w3.heap.size (some ⟨gi, 0, none⟩) x := (HRX2.out.drewN y).up' b3
          have bw3 : Below w1.heap.size w1 w3 := by
            have q := HB2.out
            exact (Below.trans (⟨q.os, q.tape, q.output, q.size, q.block⟩ : Below w1.heap.size w1 (w2.drewN y)) (b3.mono q.size))
          obtain ⟨W, hW⟩ : ∃ W, w3.alloc (.cells #[.slice (some ⟨g3, 0, none⟩) L L, .int .i64 (T : Int), .int .i64 (-1)] 30) = W := ⟨_, rfl⟩
          have bwW : Below w1.heap.size w1 W := by subst hW; exact bw3.alloc bw3.size _
          have CS : Hid (Calls Tryz.prog 9 #[.slice (some ⟨g3, 0, none⟩) L L, .slice (some ⟨gi, 0, none⟩) L di] W fun e w' => e = .returned (.bool true) ∧ ∃ z, w' = W.drewN z) := by
            have rW : ∀ {A : Option Addr}, Rd w3 w3.heap.size A x → Rd W W.heap.size A x := fun h => by subst hW; exact (h.alloc (Nat.le_refl _) _).mono (by simp)
            have h := same_any (some ⟨g3, 0, none⟩) (some ⟨gi, 0, none⟩) L L L di x x W.heap.size W.heap.size W HXL.out.symm HXL.out.symm (rW r3) (rW hxg) (by have := HXL.out; omega) (by have := HXL.out; omega)
            rw [decide_eq_true rfl] at h
            exact h
          have cc : W.cell? ⟨w3.heap.size, 0, none⟩ = some (.slice (some ⟨g3, 0, none⟩) L L) ∧ W.cell? ⟨w3.heap.size, 1, none⟩ = some (.int .i64 (T : Int)) ∧ W.cell? ⟨w3.heap.size, 2, none⟩ = some (.int .i64 (-1)) := by
            subst hW
            exact ⟨cell_of_row _ _ _ _ _ _ (heap_alloc_new w3 _), cell_of_row _ _ _ _ _ _ (heap_alloc_new w3 _), cell_of_row _ _ _ _ _ _ (heap_alloc_new w3 _)⟩
          obtain ⟨cc0, cc1, cc2⟩ := cc
          have HBW := Lib.hid bwW
          have t3 : ((L : Int) == 0) = false := by simp; omega
          clear r3 b3 hxg bw3 bwW ID
          go_upto_region 18 with (fail)
          clear hW
          go_wp2_with fail
          refine CS.out.mono ?_
          rintro e w4 ⟨rfl, z, rfl⟩
          clear cc0 cc1 cc2 CS
          go_wp2_with fail
          go_roundg (M - (i + 1))
          case measure => have := HI.out; omega
          case rel =>
            have q := HBW.out
            exact ⟨i + 1, by omega, by go_num, ⟨q.os, q.tape, q.output, q.size, q.block⟩⟩
    · obtain ⟨gi, di, x, hc, hLd, hdm, hrx, hxl, hxe⟩ := (HSO.out.below hbel.out).row m (by omega)
      rw [← HLK.out] at hc hLd hxl
      obtain rfl : x = sumA k bs1 := hxe rfl
      have hsl := (HSO.out.below hbel.out).lt
      have start : Kpa wr.heap.size wr wr.drew := ⟨(Below.refl _ _).drew, Nat.le_refl _⟩
      have rw1 : Rd wr wr.heap.size A1 bs1 := (rd1.up' HB1.out).up' hbel.out
      have HSM : Hid (∀ W, Kpa wr.heap.size wr W → Calls Tryz.prog 10 #[.int .i64 (k : Int), .slice A1 n c1] W fun e w' => ∃ g ds, e = .returned (.slice (some ⟨g, 0, none⟩) L ds) ∧ Rd w' w'.heap.size (some ⟨g, 0, none⟩) (sumA k bs1) ∧ Kpa wr.heap.size wr w') := fun W hK => by
        refine (sumOf_a k hk A1 n c1 bs1 W HN.out ((rw1.below hK.bel).mono hK.le) (by have := HN.out; omega)).mono ?_
        rintro e w' ⟨g, ds, he, ho, hb⟩
        rw [← HLK.out] at he
        exact ⟨g, ds, he, ho.rd, hK.step hb⟩
      have HSB : Hid (∀ gs ds W, Kpa wr.heap.size wr W → Rd W W.heap.size (some ⟨gs, 0, none⟩) (sumA k bs1) → Calls Tryz.prog 9 #[.slice (some ⟨gi, 0, none⟩) L di, .slice (some ⟨gs, 0, none⟩) L ds] W fun e w' => e = .returned (.bool true) ∧ Kpa wr.heap.size wr w') := fun gs ds W hK hr => by
        have h := same_any (some ⟨gi, 0, none⟩) (some ⟨gs, 0, none⟩) L L di ds (sumA k bs1) (sumA k bs1) wr.heap.size W.heap.size W hxl.symm hxl.symm (hrx.below hK.bel) hr (by omega) (by omega)
        rw [decide_eq_true rfl] at h
        refine h.mono ?_
        rintro e w' ⟨he, z, rfl⟩
        exact ⟨he, hK.dr z⟩
      have u1 : IntKind.i64.wrap ((M : Int) - 1) = (m : Int) := by rw [IntKind.wrap_i64]; have := HMM.out; omega
      have u2 : (0 : Int) ≤ (m : Int) := by omega
      have u3 : (m : Int) < (M : Int) := by have := HMM.out; omega
      have u4 : ¬ (i : Int) < (M : Int) := by omega
      have keep1 : ∀ W, Kpa wr.heap.size wr W → W.cell? ⟨g, 1 + m, none⟩ = some (.slice (some ⟨gi, 0, none⟩) L di) ∧ Kpa wr.heap.size wr W := fun W hK => ⟨hK.cell hsl hc, hK⟩
      have KEEP := Lib.hid keep1
      have HRX := Lib.hid hrx
      have HXL := Lib.hid hxl
      have st1 : wr.drew.cell? ⟨g, 1 + m, none⟩ = some (.slice (some ⟨gi, 0, none⟩) L di) ∧ Kpa wr.heap.size wr wr.drew := keep1 _ start
      clear keep1 hrx hxl tL
      go_wp2_with fail
      go_region_held3 (fun w' => w'.cell? ⟨g, 1 + m, none⟩ = some (.slice (some ⟨gi, 0, none⟩) L di) ∧ Kpa wr.heap.size wr w')
        (first | exact st1 | (refine KEEP.out _ ?_; first | exact start | assumption))
        (first | (go_at_call 10; refine (HSM.out _ ?_).mono ?_; (first | exact start | assumption); rintro e w' ⟨gs, ds, rfl, hrs, hks⟩) | (go_at_call 9; refine (HSB.out _ _ _ ?_ ?_).mono ?_; assumption; assumption; rintro e w' ⟨rfl, hk2⟩))
      have bw1 : Below w0.heap.size w0 wr := HB1.out.trans (hbel.out.mono HB1.out.size)
      have bfin : Below w0.heap.size w0 w' := bw1.trans (hk2.bel.mono bw1.size)
      go_wp2_with fail
      go_ret
      exact ⟨rfl, bfin⟩

end Go.Proofs.YtemojkjcnkbpoaaGreatDoor

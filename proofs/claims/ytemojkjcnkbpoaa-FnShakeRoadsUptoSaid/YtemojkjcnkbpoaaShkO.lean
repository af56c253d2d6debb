/-
  impl.Outputs: what SHAKE puts out, in parts. Condition: at most 1048576 cuts and sizes, and the lengths' bounds.
-/
import Derived.Test.YtemojkjcnkbpoaaShkN
import Derived.Test.YtemojkjcnkbpoaaSumsP
import Derived.Deep.OwnRows
namespace Go.Proofs.Ytemojkjcnkbpoaa
open Go.RowKit
open Spo
set_option linter.unusedVariables false

theorem pcs_flat (bs : List UInt8) (zs : List Int) : (pcs bs zs).flatten = bs := by
  induction zs generalizing bs with
  | nil => simp [pcs]
  | cons z r ih => rw [pcs, List.flatten_cons, ih, List.take_append_drop]
theorem drop_flat {ps : List (List UInt8)} {i : Nat} {p : List UInt8} (h : ps[i]? = some p) : (ps.drop i).flatten = p ++ (ps.drop (i + 1)).flatten := by
  obtain ⟨hl, he⟩ := List.getElem?_eq_some_iff.1 h
  rw [List.drop_eq_getElem_cons hl, he, List.flatten_cons]

theorem zeros_len : zeros.length = 200 := by unfold zeros; rw [List.length_replicate]
/-- the sponge behind bs -/
def spo (rate : Nat) (bs : List UInt8) : S := absorb kf rate (zeros, 0) bs
theorem spo_ok (rate : Nat) (h0 : 0 < rate) (bs : List UInt8) : (spo rate bs).1.length = 200 ∧ (spo rate bs).2 < rate := absorb_ok kf rate kf_len h0 (zeros, 0) bs ⟨zeros_len, h0⟩
/-- the sponge behind bs, turned round -/
def spt (rate : Nat) (bs : List UInt8) : S := turned 0 (spo rate bs).1 (spo rate bs).2 rate 31

def rateB (b : Bool) : Nat := if b then 136 else 168
def outB (b : Bool) : Nat := if b then 64 else 32
theorem rateB_ok (b : Bool) : 0 < rateB b ∧ rateB b ≤ 200 := by cases b <;> decide
theorem outB_pos (b : Bool) : 0 < outB b := by cases b <;> decide

/-- how many bytes the sizes ask for -/
def tot : List Int → Nat
  | [] => 0
  | z :: r => min z.toNat 5000 + tot r
theorem tot_step {zs : List Int} {i : Nat} {z : Int} (h : zs[i]? = some z) : tot (zs.drop i) = min z.toNat 5000 + tot (zs.drop (i + 1)) := by
  obtain ⟨hl, he⟩ := List.getElem?_eq_some_iff.1 h
  rw [List.drop_eq_getElem_cons hl, he, tot]
theorem tot_le (zs : List Int) : tot zs ≤ 5000 * zs.length := by
  induction zs with
  | nil => simp [tot]
  | cons z r ih => rw [tot, List.length_cons]; omega

/-- in the midst of the writes -/
structure L1 (w0 V wr : World) (h rate out G D : Nat) (vsP : List Value) (ps : List (List UInt8)) (bs : List UInt8) (i : Nat) (acc : List UInt8) : Prop where
  dg : DG wr h 46 (spo rate acc).1 (spo rate acc).2 rate 31 out 0 tlS
  own : OwnV 22 wr V.heap.size G D vsP
  pcs : Pieces wr V.heap.size vsP ps
  all : acc ++ (ps.drop i).flatten = bs
  bel : Below w0.heap.size w0 wr
  ge : w0.heap.size ≤ h

/-- in the midst of the reads -/
structure L2 (w0 wr : World) (h rate out g d : Nat) (vs : List Value) (done : List (List UInt8)) (s0 : S) (t : Nat) : Prop where
  dg : ∃ a n st, DG wr h 46 a n rate 31 out st tlS ∧ (st = 0 ∧ n < rate ∨ st = 1 ∧ n ≤ rate) ∧ turned st a n rate 31 = sqzS kf rate t s0
  own : OwnV 22 wr w0.heap.size g d vs
  pcs : Pieces wr w0.heap.size vs done
  fl : done.flatten = sqz kf rate t s0
  bel : Below w0.heap.size w0 wr
  ge : w0.heap.size ≤ h

theorem read_grown {wr w2 : World} {h : Nat} {o : Obj} (hh : h < wr.heap.size) (f : Fr (fun k => k = h ∨ k = wr.heap.size) (wr.alloc o) w2) : wr.grownBy w2 (some h) :=
  ⟨f.os, f.tape, f.output, Nat.le_trans (by simp) f.size, fun k hk hne => (f.block k (by simp; omega) (fun e => e.elim (fun e => hne (by rw [e])) (fun e => by omega))).trans (Below.heap_alloc _ _ _ hk)⟩

set_option maxRecDepth 100000 in
set_option maxHeartbeats 8000000 in
theorem outputs_any (b0 : Bool) (A : Option Addr) (n c : Nat) (bs : List UInt8) (A2 : Option Addr) (m2 c2 : Nat) (zs2 : List Int) (A3 : Option Addr) (m3 c3 : Nat) (zs3 : List Int) (w : World) (hn : n = bs.length) (h : Rd w w.heap.size A bs) (hnc : n ≤ c) (hc : c ≤ 1048576) (hm2 : m2 = zs2.length) (h2 : RdI w w.heap.size A2 zs2) (hml2 : m2 ≤ 1048576) (hm3 : m3 = zs3.length) (h3 : RdI w w.heap.size A3 zs3) (hml3 : m3 ≤ 1048576) :
    Calls Try.prog 5 #[.bool b0, .slice A n c, .slice A2 m2 c2, .slice A3 m3 c3] w fun e w' => ∃ g d vs ps, e = .returned (.slice (some ⟨g, 0, none⟩) vs.length d) ∧ OwnV 22 w' w.heap.size g d vs ∧ Pieces w' w.heap.size vs ps ∧ ps.flatten = sqz kf (rateB b0) (tot zs3) (spt (rateB b0) bs) ∧ vs.length ≤ 1048576 ∧ Below w.heap.size w w' := by
  have HN := Lib.hid hn
  have HM2 := Lib.hid hm2
  have HM3 := Lib.hid hm3
  have HRD := Lib.hid h
  have HRI2 := Lib.hid h2
  have HRI3 := Lib.hid h3
  clear hn hm2 hm3 h h2 h3
  obtain ⟨rate, hrt⟩ : ∃ r, rateB b0 = r := ⟨_, rfl⟩
  obtain ⟨out, hot⟩ : ∃ r, outB b0 = r := ⟨_, rfl⟩
  have hrb := rateB_ok b0
  have hob := outB_pos b0
  rw [hrt] at hrb ⊢
  rw [hot] at hob
  have HRT := Lib.hid hrt
  have HOT := Lib.hid hot
  obtain ⟨hr0, hr2⟩ := hrb
  clear hrt hot
  go_enter Try.func5, Try.ntmps5
  go_wp2_with fail
  refine (newK128 w).mono ?_
  rintro e w1 ⟨hk, rfl, D1, l1, l2, B1⟩
  have HD1 := Lib.hid D1
  have HB1 := Lib.hid B1
  clear D1 B1
  go_upto_if 19 with (fail)
  go_cut [9] (fun x wc => ∃ h : Nat, x = .pointer (some ⟨h, 0, none⟩) ∧ Hid (DG wc h 46 zeros 0 rate 31 out 0 tlS ∧ Below w.heap.size w wc ∧ w.heap.size ≤ h))
  case first =>
    cases b0 with
    | false =>
      have R : Hid (DG w1 hk 46 zeros 0 rate 31 out 0 tlS ∧ Below w.heap.size w w1 ∧ w.heap.size ≤ hk) := by
        have e1 := HRT.out; have e2 := HOT.out
        subst e1 e2
        exact ⟨HD1.out, HB1.out, l1⟩
      go_wp2_with fail
      go_meet
      exact ⟨hk, rfl, R⟩
    | true =>
      go_wp2_with fail
      refine (newK256 w1).mono ?_
      rintro e w2 ⟨h2, rfl, D2, l3, l4, B2⟩
      have R : Hid (DG w2 h2 46 zeros 0 rate 31 out 0 tlS ∧ Below w.heap.size w w2 ∧ w.heap.size ≤ h2) := by
        have e1 := HRT.out; have e2 := HOT.out
        subst e1 e2
        have z := HB1.out.size
        exact ⟨D2, HB1.out.trans (B2.mono z), by omega⟩
      clear D2 B2
      go_wp2_with fail
      go_meet
      exact ⟨h2, rfl, R⟩
  case rest =>
    obtain ⟨h, rfl, R0⟩ := hcut
    clear HD1 HB1 HRT HOT l1 l2
    have z0 := R0.out.2.1.size
    go_wp2_with fail
    refine (pieces_any A n c bs A2 m2 c2 zs2 wc HN.out ((HRD.out.below R0.out.2.1).mono z0) hnc (by omega) HM2.out (RdI.below' HRI2.out R0.out.2.1 z0) hml2).mono ?_
    rintro e w3 ⟨G, D, vsP, rfl, oP, pP, hb3⟩
    have z3 := hb3.size
    have hmp : vsP.length ≤ 1048577 := by rw [pP.1, pcs_len]; have := HM2.out; omega
    obtain ⟨ps, eps⟩ : ∃ ps, ps = pcs bs zs2 := ⟨_, rfl⟩
    rw [← eps] at pP
    have hfl : ps.flatten = bs := by rw [eps]; exact pcs_flat _ _
    obtain ⟨mp, emp⟩ : ∃ mp, mp = vsP.length := ⟨_, rfl⟩
    rw [← emp] at hmp ⊢
    have HMP := Lib.hid emp
    have I0 : L1 w wc w3 h rate out G D vsP ps bs 0 [] := ⟨R0.out.1.keep (hb3.block h R0.out.1.lt), oP, pP, hfl, R0.out.2.1.trans (hb3.mono z0), R0.out.2.2⟩
    have HI0 := Lib.hid I0
    clear I0 oP pP hb3 eps hfl emp
    go_wp2_with fail
    go_loopg [25] mp (fun gk ix wr => ∃ (i : Nat) (acc : List UInt8), i + gk = mp ∧ ix = .int .i64 (i : Int) ∧ Hid (L1 w wc wr h rate out G D vsP ps bs i acc))
    case atStart => exact ⟨0, [], by omega, rfl, HI0⟩
    case round =>
      obtain ⟨i, acc, hi, rfl, hI⟩ := hrel
      have HI := Lib.hid hi
      have him : i ≤ mp := by omega
      clear hi
      have hws := hI.out.bel.size
      by_cases hlti : i < mp
      · obtain ⟨v, hv⟩ : ∃ v, vsP[i]? = some v := ⟨_, List.getElem?_eq_getElem (by have := HMP.out; omega)⟩
        obtain ⟨p, hp'⟩ : ∃ p, ps[i]? = some p := ⟨_, List.getElem?_eq_getElem (by have := HMP.out; have := hI.out.pcs.1; omega)⟩
        have hpa := hI.out.pcs.2 i v p hv hp'
        have hcv := hI.out.own.cell hv
        obtain ⟨gi, di, cs, rfl, hgi, hgb, hpd, hdm, hcs⟩ := hpa
        have hdm' : di ≤ 9223372036854775807 := by simp only [maxLen] at hdm; omega
        have hall := hI.out.all
        rw [drop_flat hp', ← List.append_assoc] at hall
        have hdgb := hI.out.dg.blk
        have hGh : G ≠ h := by
          rintro rfl
          obtain ⟨cur, hc⟩ := hI.out.own.block
          rw [hdgb] at hc
          injection hc with hc
          injection hc with _ hc
          exact absurd hc (by decide)
        have hgih : gi ≠ h := by
          rintro rfl
          rw [hdgb] at hgb
          injection hgb with hgb
          injection hgb with _ hgb
          exact absurd hgb (by decide)
        have hsrc : Src wr h (some ⟨gi, 0, none⟩) p := by
          refine .inr ⟨gi, 0, cs, _, rfl, hgb, hgih, fun k x hx => ?_⟩
          have hk : k < p.length := (List.getElem?_eq_some_iff.1 hx).1
          have h5 : (p.map bv)[k]? = some (bv x) := by simp [hx]
          rw [← hcs, List.getElem?_take_of_lt hk, Array.getElem?_toList] at h5
          rw [Nat.zero_add]
          exact h5
        have CW := Lib.hid (shkWrite_any hI.out.dg hob (some ⟨gi, 0, none⟩) p.length di p rfl hsrc hpd hdm' (spo_ok rate hr0 acc).2 hr2)
        have HALL := Lib.hid hall
        have HDB := Lib.hid hdgb
        clear hv hp' hcs hgb hall hsrc hdgb
        go_wp2_with fail
        refine CW.out.mono ?_
        rintro e w4 ⟨rfl, hs4, hg4⟩
        have I4 : L1 w wc w4 h rate out G D vsP ps bs (i + 1) (acc ++ p) := by
          refine ⟨?_, hI.out.own.grown hg4 hGh, hI.out.pcs.grown hg4 HDB.out (by decide), HALL.out, hI.out.bel.grown hg4 hws (fun j hj => by injection hj with hj; subst hj; exact hI.out.ge), hI.out.ge⟩
          unfold spo
          rw [absorb_append]
          exact hs4
        have HI4 := Lib.hid I4
        clear I4 hs4 hg4 CW
        go_wp2_with fail
        go_roundg (gk - 1)
        case measure => have := HI.out; omega
        case rel => exact ⟨i + 1, acc ++ p, by have := HI.out; omega, by go_num, HI4⟩
      · have hz : ps.drop i = [] := List.drop_eq_nil_of_le (by have := HMP.out; have := hI.out.pcs.1; omega)
        have hall := hI.out.all
        rw [hz, List.flatten_nil, List.append_nil] at hall
        subst hall
        have hgeh := hI.out.ge
        have hhl := hI.out.dg.lt
        have S2 : L2 w (wr.alloc (.cells #[] 22)) h rate out wr.heap.size 0 [] [] (spt rate acc) 0 := by
          refine ⟨⟨_, _, 0, hI.out.dg.keep (Below.heap_alloc _ _ _ hhl), .inl ⟨rfl, (spo_ok rate hr0 acc).2⟩, rfl⟩, OwnV.empty _ wr _ hws, Pieces.nil _ _, rfl, hI.out.bel.alloc hws _, hgeh⟩
        have HS2 := Lib.hid S2
        clear S2 hz hI
        go_wp2_with fail
        go_loopg [12, 36] m3 (fun gk ov ix wx => ∃ (i g d l t : Nat) (vs : List Value) (done : List (List UInt8)), i + gk = m3 ∧ ix = .int .i64 (i : Int) ∧ ov = .slice (some ⟨g, 0, none⟩) l d ∧ Hid (l = vs.length) ∧ Hid (l = i) ∧ Hid (t + tot (zs3.drop i) = tot zs3) ∧ Hid (L2 w wx h rate out g d vs done (spt rate acc) t))
        case atStart => exact ⟨0, wr.heap.size, 0, 0, 0, [], [], by omega, rfl, rfl, rfl, rfl, by show _ = _; rw [List.drop_zero, Nat.zero_add], HS2⟩
        case round =>
          clear HS2
          obtain ⟨i, g, d, l, t, vs, done, hi, rfl, rfl, hl, hli, ht, hS⟩ := hrel
          have HI := Lib.hid hi
          have him : i ≤ m3 := by omega
          clear hi
          have hws2 := hS.out.bel.size
          by_cases hlti : i < m3
          · obtain ⟨b, off, z, rfl, hb, hz, hcz⟩ : ∃ b off z, A3 = some ⟨b, off, none⟩ ∧ b < w.heap.size ∧ zs3[i]? = some z ∧ w.cell? ⟨b, off + i, none⟩ = some (.int .i64 z) := by
              have hil : i < zs3.length := by have := HM3.out; omega
              rcases HRI3.out.2 with e | ⟨b, off, e, hb, hc⟩
              · rw [e] at hil; simp at hil
              · exact ⟨b, off, zs3[i], e, hb, List.getElem?_eq_getElem hil, hc i _ (List.getElem?_eq_getElem hil)⟩
            have hcz' : wr.cell? ⟨b, off + i, none⟩ = some (.int .i64 z) := (hS.out.bel.cell (p := ⟨b, off + i, none⟩) hb).trans hcz
            obtain ⟨q, hq⟩ : ∃ q : Nat, q = min z.toNat 5000 := ⟨_, rfl⟩
            have hq5 : q ≤ 5000 := by omega
            have hts := tot_step hz
            rw [← hq] at hts
            have ht' := ht.out
            rw [hts, ← Nat.add_assoc] at ht'
            have HT := Lib.hid ht'
            have hmk := run_make_row' (P := Try.prog) 22 5 (.int .u8 0) 1 Try.underlying22 info5 rfl .i64 .i64 q (by omega) (by omega)
            have HQ := Lib.hid hq
            clear hz hcz hts ht' hq
            go_upto_region 13 with (fail)
            go_cut [15] (fun x wc => x = .slice (some ⟨wr.heap.size, 0, none⟩) q q ∧ wc = wr.alloc (.cells (madeCells #[.int .u8 0] q) 5))
            case first =>
              by_cases hz0 : z < 0
              · obtain rfl : q = 0 := by have := HQ.out; omega
                have hm0 : ∀ W : World, (Instr.makeSlice 22 (.int .i64 0) (.int .i64 0)).run Try.prog W = .ok (.slice (some ⟨W.heap.size, 0, none⟩) 0 0) (W.alloc (.cells (madeCells #[.int .u8 0] 0) 5)) := fun W => hmk W
                clear hmk
                go_wp2_with fail
                go_meet
                exact ⟨rfl, rfl⟩
              · by_cases hz5 : 5000 < z
                · obtain rfl : q = 5000 := by have := HQ.out; omega
                  have hm5 : ∀ W : World, (Instr.makeSlice 22 (.int .i64 5000) (.int .i64 5000)).run Try.prog W = .ok (.slice (some ⟨W.heap.size, 0, none⟩) 5000 5000) (W.alloc (.cells (madeCells #[.int .u8 0] 5000) 5)) := fun W => hmk W
                  clear hmk
                  go_wp2_with fail
                  go_meet
                  exact ⟨rfl, rfl⟩
                · obtain rfl : z = (q : Int) := by have := HQ.out; omega
                  go_wp2_with fail
                  go_meet
                  exact ⟨rfl, rfl⟩
            case rest =>
              obtain ⟨rfl, rfl⟩ := hcut
              clear hmk
              obtain ⟨a, n', st, dgw, hst, htu⟩ := hS.out.dg
              have hhl2 := dgw.lt
              have hda := dgw.len
              have hms : (madeCells #[Value.int .u8 0] q).size = q := by simp [madeCells]
              have hms0 : 0 + q ≤ (madeCells #[Value.int .u8 0] q).size := by rw [hms]; omega
              have X := Lib.hid (shkRead_any 31 (dgw.keep (w' := wr.alloc (.cells (madeCells #[.int .u8 0] q) 5)) (Below.heap_alloc _ _ _ hhl2)) hob hst wr.heap.size 0 q q (madeCells #[.int .u8 0] q) 5 (heap_alloc_new wr _) (by omega) hms0 (Nat.le_refl _) (by omega) hr0 hr2)
              have HTU := Lib.hid htu
              have HDB := Lib.hid dgw.blk
              clear hms hms0 dgw htu
              obtain ⟨gb, hgb⟩ : ∃ gb, gb = wr.heap.size := ⟨_, rfl⟩
              have HGB := Lib.hid hgb
              rw [← hgb] at X ⊢
              clear hgb
              go_wp2_with fail
              refine X.out.mono ?_
              rintro e w2 ⟨rfl, D2, B2, F2⟩
              have hms : (madeCells #[Value.int .u8 0] q).size = q := by simp [madeCells]
              have hgb := HGB.out
              have g2 : wr.grownBy w2 (some h) := by rw [hgb] at F2; exact read_grown hhl2 F2
              have z2 : gb < w2.heap.size := by have := F2.size; simp at this; omega
              obtain ⟨part, hpart⟩ : ∃ part, part = sqz kf rate q (turned st a n' rate 31) := ⟨_, rfl⟩
              have hpl : part.length = q := by rw [hpart, sqz_len]
              have hb2 : w2.heap[gb]? = some (.cells (part.map bv).toArray 5 (0, 0)) := by
                rw [B2, ← hpart, List.take_zero, List.nil_append, List.drop_eq_nil_of_le (by rw [Array.length_toList, hms]; omega), List.append_nil]
              have hdb := HDB.out
              have hgh : g ≠ h := by
                rintro rfl
                obtain ⟨cur, hc⟩ := hS.out.own.block
                rw [hdb] at hc
                injection hc with hc
                injection hc with _ hc
                exact absurd hc (by decide)
              have o2 := hS.out.own.grown g2 hgh
              have p2 := hS.out.pcs.grown g2 hdb (by decide)
              have bl2 : Below w.heap.size w w2 := hS.out.bel.grown g2 hws2 (fun j hj => by injection hj with hj; subst hj; exact hS.out.ge)
              have pp2 : PieceAt w2 w.heap.size (.slice (some ⟨gb, 0, none⟩) q q) part := ⟨gb, q, _, by rw [hpl], by omega, hb2, by omega, by simp only [maxLen]; omega, by rw [List.take_of_length_le (by rw [List.toList_toArray, List.length_map]; omega), List.toList_toArray]⟩
              obtain ⟨W, hW⟩ : ∃ W, w2.alloc (.cells #[.slice (some ⟨gb, 0, none⟩) q q] 22) = W := ⟨_, rfl⟩
              have bW : Below w2.heap.size w2 W := by subst hW; exact (Below.refl _ _).alloc (Nat.le_refl _) _
              have sW : W.heap.size = w2.heap.size + 1 := by subst hW; simp
              have hcl : W.cell? ⟨w2.heap.size, 0, none⟩ = some (.slice (some ⟨gb, 0, none⟩) q q) := by subst hW; rw [cell_of_row _ w2.heap.size _ _ _ _ (heap_alloc_new w2 _)]; rfl
              have o5 := o2.below bW
              have p5 := p2.below bW
              have pp5 := pp2.below bW
              have dW := D2.keep (bW.block h D2.lt)
              have b5 : Below w.heap.size w W := bl2.trans (bW.mono (by have := bl2.size; omega))
              have z5 := b5.size
              have HO5 := Lib.hid o5
              have HP5 := Lib.hid p5
              have HPP5 := Lib.hid pp5
              have HCL := Lib.hid hcl
              have HDW := Lib.hid dW
              have HB5 := Lib.hid b5
              have HPART := Lib.hid hpart
              have HSW := Lib.hid sW
              have hhW : h < W.heap.size := dW.lt
              clear B2 D2 F2 X g2 hms hgb hpl hb2 hdb o2 p2 bl2 pp2 bW hcl o5 p5 pp5 dW b5 hpart sW
              go_wp2_with (at_builtin; (try rw [hW]); refine wpList_append_one infoRow rfl (by decide) rfl _ _ 25 rfl Try.underlying25 w.heap.size g d vs l rfl hl.out HO5.out w2.heap.size 1 (.slice (some ⟨gb, 0, none⟩) q q) rfl HCL.out rfl (by have := hl.out; have := hli.out; omega) (by omega) ?_; intro g' c'' w6 h1 h2 h3; refine Hid.out ?_)
              refine Lib.hid ?_
              obtain ⟨cur, hcur⟩ := HO5.out.block
              have S6 : L2 w w6 h rate out g' c'' (vs ++ [.slice (some ⟨gb, 0, none⟩) q q]) (done ++ [part]) (spt rate acc) (t + q) := by
                have hturn : (turned st a n' rate 31).1.length = 200 ∧ (turned st a n' rate 31).2 ≤ rate := by
                  unfold turned
                  split
                  · exact ⟨kf_len _, Nat.zero_le _⟩
                  · exact ⟨hda, by omega⟩
                have hsq := sqzS_ok kf rate kf_len q (turned st a n' rate 31) hturn hr0
                obtain ⟨a1, a2⟩ := sqz_add kf rate t q (spt rate acc)
                have hd6 : DG w6 h 46 (sqzS kf rate q (turned st a n' rate 31)).1 (sqzS kf rate q (turned st a n' rate 31)).2 rate 31 out 1 tlS := HDW.out.keep (h2.block h hhW (fun e => hgh (by injection e with e; exact e.symm)))
                refine ⟨⟨_, _, 1, hd6, .inr ⟨rfl, hsq.2⟩, ?_⟩, h1, (HP5.out.grown h2 hcur (by decide)).snoc (HPP5.out.grown h2 hcur (by decide)), ?_, HB5.out.grown h2 (by omega) (fun j hj => by injection hj with hj; subst hj; exact HO5.out.lt'.1), hS.out.ge⟩
                · rw [a2, ← HTU.out]; rfl
                · rw [List.flatten_append, hS.out.fl, a1, ← HTU.out, HPART.out]; simp
              have HS6 := Lib.hid S6
              clear h1 h2 h3 hcur S6 hW
              go_wp2_with fail
              go_roundg (gk - 1)
              case measure => have := HI.out; omega
              case rel =>
                refine ⟨i + 1, g', c'', _, t + q, _, _, by have := HI.out; omega, by go_num, rfl, ?_, ?_, HT, HS6⟩
                · show _ = _; rw [List.length_append, List.length_singleton]
                · show _ = _; have := hl.out; have := hli.out; omega
          · have hz : zs3.drop i = [] := List.drop_eq_nil_of_le (by have := HM3.out; omega)
            have ht' := ht.out
            rw [hz, tot, Nat.add_zero] at ht'
            have hfl := hS.out.fl
            rw [ht'] at hfl
            have HF := Lib.hid hfl
            have hvl : vs.length ≤ 1048576 := by have := hl.out; have := hli.out; omega
            have HV := Lib.hid hvl
            clear hz ht' hfl hvl
            go_wp2_with fail
            go_ret
            have hl' := hl.out
            subst hl'
            exact ⟨g, d, vs, done, rfl, hS.out.own, hS.out.pcs, HF.out, HV.out, hS.out.bel⟩

end Go.Proofs.Ytemojkjcnkbpoaa

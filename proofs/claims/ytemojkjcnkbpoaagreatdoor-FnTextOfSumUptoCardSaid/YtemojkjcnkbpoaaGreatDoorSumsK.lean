/-
  impl.SumsOf at any kind of hash: the sum behind each piece of data. Condition: at most 1048576 cuts, and the lengths' bounds.
-/
import Derived.Test.YtemojkjcnkbpoaaGreatDoorHk
import Derived.Test.YtemojkjcnkbpoaaGreatDoorSumsP
namespace Go.Proofs.YtemojkjcnkbpoaaGreatDoor
open Go.RowKit
set_option linter.unusedVariables false

set_option maxRecDepth 100000 in
set_option maxHeartbeats 4000000 in
theorem sumsOf_hk {kind : Int} {tw : TypeId} {fW fS : FuncId} {St : World → Nat → List UInt8 → Prop} {sum : List UInt8 → List UInt8} (K : HK Tryz.prog 17 kind tw fW fS St sum) (A : Option Addr) (n c : Nat) (bs : List UInt8) (A2 : Option Addr) (m c2 : Nat) (zs : List Int) (w : World) (hn : n = bs.length) (h : Rd w w.heap.size A bs) (hnc : n ≤ c) (hc : c ≤ 140737488351232) (hm : m = zs.length) (h2 : RdI w w.heap.size A2 zs) (hml : m ≤ 1048576) :
    Calls Tryz.prog 11 #[.int .i64 kind, .slice A n c, .slice A2 m c2] w fun e w' => ∃ g d vs, e = .returned (.slice (some ⟨g, 0, none⟩) vs.length d) ∧ OwnV 22 w' w.heap.size g d vs ∧ Pieces w' w.heap.size vs (sum [] :: sumsFrom sum [] (pcs bs zs)) ∧ Below w.heap.size w w' := by
  have HN := Lib.hid hn
  have HM := Lib.hid hm
  have HRD := Lib.hid h
  have HRI := Lib.hid h2
  clear hn hm h h2
  have n1 := K.nW
  have n2 := K.mW
  have n3 := K.mS
  have n4 := K.nS
  have n5 := K.eW
  have n6 := K.eS
  go_enter Tryz.func11, Tryz.ntmps11
  go_wp2_with fail
  refine (K.new w).mono ?_
  rintro e w1 ⟨hh, rfl, hst, hge, hlt, hb1⟩
  have HST := Lib.hid hst
  clear hst
  go_wp2_with fail
  refine (K.sum hh [] w1 HST.out).mono ?_
  rintro e w2 ⟨g0, d0, rfl, ho0, hb2⟩
  have z2 := hb2.size
  go_wp2_with fail
  obtain ⟨V, hV⟩ : ∃ V, w2.alloc (.cells #[.slice (some ⟨g0, 0, none⟩) (sum []).length d0] 22) = V := ⟨_, rfl⟩
  have sV : V.heap.size = w2.heap.size + 1 := by subst hV; simp
  have bV : Below w2.heap.size w2 V := by subst hV; exact (Below.refl _ _).alloc (Nat.le_refl _) _
  have oV : OwnV 22 V w.heap.size w2.heap.size 1 [.slice (some ⟨g0, 0, none⟩) (sum []).length d0] := by subst hV; exact OwnV.one _ _ _ _ (by omega)
  have pV : Pieces V w.heap.size [.slice (some ⟨g0, 0, none⟩) (sum []).length d0] [sum []] := Pieces.snoc (Pieces.nil _ _) ((ho0.piece.below bV).mono (by omega))
  have stV : St V hh [] := K.keep HST.out ((bV.block _ (by omega)).trans (hb2.block _ hlt))
  have bwV : Below w.heap.size w V := (hb1.trans (hb2.mono (by omega))).trans (bV.mono (by omega))
  rw [hV]
  clear hV ho0 bV hb2
  refine (pieces_any A n c bs A2 m c2 zs V HN.out ((HRD.out.below bwV).mono (by omega)) hnc hc HM.out ?_ hml).mono ?_
  · exact RdI.below' HRI.out bwV (by omega)
  rintro e w3 ⟨G, D, vsP, rfl, oP, pP, hb3⟩
  have z3 := hb3.size
  have hmp : vsP.length ≤ 1048577 := by rw [pP.1, pcs_len]; have := HM.out; omega
  have o3 := oV.below hb3
  have p3 := pV.below hb3
  have s3 : St w3 hh [] := K.keep stV (hb3.block _ (by omega))
  have bw3 : Below w.heap.size w w3 := bwV.trans (hb3.mono (by omega))
  have hGl := oP.lt'
  obtain ⟨ps, eps⟩ : ∃ ps, ps = pcs bs zs := ⟨_, rfl⟩
  rw [← eps] at pP
  have HPS := Lib.hid eps
  obtain ⟨mp, emp⟩ : ∃ mp, mp = vsP.length := ⟨_, rfl⟩
  rw [← emp] at hmp ⊢
  have HMP := Lib.hid emp
  have O3 := Lib.hid o3
  have P3 := Lib.hid p3
  have S3 := Lib.hid s3
  have OP := Lib.hid oP
  have PP := Lib.hid pP
  have B3 := Lib.hid bw3
  clear o3 p3 s3 oP pP bw3 oV pV stV bwV hb3 emp eps
  go_wp2_with fail
  go_loopg [8, 22] mp (fun gk ov ix wr => ∃ (i g d l : Nat) (vs : List Value) (acc : List UInt8) (done : List (List UInt8)), i + gk = mp ∧ ix = .int .i64 (i : Int) ∧ ov = .slice (some ⟨g, 0, none⟩) l d ∧ Hid (l = vs.length) ∧ Hid (l = i + 1) ∧
    Hid (OwnV 22 wr w.heap.size g d vs) ∧ Hid (Pieces wr w.heap.size vs done) ∧ Hid (St wr hh acc) ∧ Hid (OwnV 22 wr V.heap.size G D vsP) ∧ Hid (Pieces wr V.heap.size vsP ps) ∧ g ≠ G ∧
    Hid (done ++ sumsFrom sum acc (ps.drop i) = sum [] :: sumsFrom sum [] ps) ∧ Hid (Below w.heap.size w wr) ∧ V.heap.size ≤ wr.heap.size ∧ hh < wr.heap.size)
  case atStart => exact ⟨0, w2.heap.size, 1, 1, [.slice (some ⟨g0, 0, none⟩) (sum []).length d0], [], [sum []], by omega, rfl, rfl, rfl, rfl, O3, P3, S3, OP, PP, by omega, rfl, B3, z3, by omega⟩
  case round =>
    obtain ⟨i, g, d, l, vs, acc, done, hi, rfl, rfl, hl, hli, ho, hp, hs, hoP, hpP, hgG, heq, hbel, hVs, hhl⟩ := hrel
    have HI := Lib.hid hi
    have him : i ≤ mp := by omega
    clear hi
    have hws := hbel.out.size
    by_cases hlti : i < mp
    · obtain ⟨v, hv⟩ : ∃ v, vsP[i]? = some v := ⟨_, List.getElem?_eq_getElem (by have := HMP.out; omega)⟩
      obtain ⟨p, hp'⟩ : ∃ p, ps[i]? = some p := ⟨_, List.getElem?_eq_getElem (by have := HMP.out; have := hpP.out.1; omega)⟩
      have hpa := hpP.out.2 i v p hv hp'
      have hcv := hoP.out.cell hv
      obtain ⟨gi, di, cs, rfl, hgi, hgb, hpd, hdm, hcs⟩ := hpa
      have hrdp := (hpP.out.2 i _ p hv hp').rd
      have hnext := sumsFrom_step sum acc p ps i hp'
      have heq2 := heq.out
      rw [hnext] at heq2
      have HEQ := Lib.hid heq2
      have hdm' : di ≤ 9223372036854775807 := by simp only [maxLen] at hdm; omega
      obtain ⟨curh, Th, hch, hTu, hTr⟩ := K.blk hs.out
      have hgh : g ≠ hh := by
        rintro rfl
        obtain ⟨cur, hc⟩ := ho.out.block
        rw [hch] at hc
        injection hc with hc
        injection hc with _ hc
        exact hTr hc
      have hGh : G ≠ hh := by
        rintro rfl
        obtain ⟨cur, hc⟩ := hoP.out.block
        rw [hch] at hc
        injection hc with hc
        injection hc with _ hc
        exact hTr hc
      have hgih : gi ≠ hh := by
        rintro rfl
        rw [hch] at hgb
        injection hgb with hgb
        injection hgb with _ hgb
        exact hTu hgb
      have hsrc : Src wr hh (some ⟨gi, 0, none⟩) p := by
        refine .inr ⟨gi, 0, cs, _, rfl, hgb, hgih, fun k x hx => ?_⟩
        have hk : k < p.length := (List.getElem?_eq_some_iff.1 hx).1
        have h5 : (p.map bv)[k]? = some (bv x) := by simp [hx]
        rw [← hcs, List.getElem?_take_of_lt hk, Array.getElem?_toList] at h5
        rw [Nat.zero_add]
        exact h5
      have CW : Hid (Calls Tryz.prog fW #[.pointer (some ⟨hh, 0, none⟩), .slice (some ⟨gi, 0, none⟩) p.length di] wr fun e w' => e = .returned (.tuple #[.int .i64 (p.length : Int), .nilIface]) ∧ St w' hh (acc ++ p) ∧ wr.grownBy w' (some hh)) :=
        K.write hh (some ⟨gi, 0, none⟩) p.length di acc p wr hs.out rfl hsrc hpd hdm'
      have HCH := Lib.hid hch
      clear hv hp' hcs hgb hnext heq2 hch hrdp
      go_wp2_with fail
      refine CW.out.mono ?_
      rintro e w4 ⟨rfl, hs4, hg4⟩
      have o4 := ho.out.grown hg4 hgh
      have oP4 := hoP.out.grown hg4 hGh
      have p4 := hp.out.grown hg4 HCH.out hTu
      have pP4 := hpP.out.grown hg4 HCH.out hTu
      have b4 : Below w.heap.size w w4 := hbel.out.grown hg4 hws (fun j hj => by injection hj with hj; subst hj; exact hge)
      have z4 := hg4.size
      have HS4 := Lib.hid hs4
      clear hs4 hg4
      go_wp2_with fail
      refine (K.sum hh (acc ++ p) w4 HS4.out).mono ?_
      rintro e w5 ⟨g5, d5, rfl, ho5, hb5⟩
      obtain ⟨ln, hsl⟩ : ∃ ln, ln = (sum (acc ++ p)).length := ⟨_, rfl⟩
      have hpp := ho5.piece
      rw [← hsl] at hpp ⊢
      have z5 := hb5.size
      obtain ⟨W, hW⟩ : ∃ W, w5.alloc (.cells #[.slice (some ⟨g5, 0, none⟩) ln d5] 22) = W := ⟨_, rfl⟩
      have bW : Below w5.heap.size w5 W := by subst hW; exact (Below.refl _ _).alloc (Nat.le_refl _) _
      have sW : W.heap.size = w5.heap.size + 1 := by subst hW; simp
      have hcl : W.cell? ⟨w5.heap.size, 0, none⟩ = some (.slice (some ⟨g5, 0, none⟩) ln d5) := by subst hW; rw [cell_of_row _ w5.heap.size _ _ _ _ (heap_alloc_new w5 _)]; rfl
      have o5 := (o4.below hb5).below bW
      have oP5 := (oP4.below hb5).below bW
      have p5 := (p4.below hb5).below bW
      have pP5 := (pP4.below hb5).below bW
      have pp5 := hpp.below bW
      have st5 : St W hh (acc ++ p) := K.keep HS4.out ((bW.block _ (by omega)).trans (hb5.block _ (by omega)))
      have b5 : Below w.heap.size w W := (b4.trans (hb5.mono (by omega))).trans (bW.mono (by omega))
      have HO5 := Lib.hid o5
      have HCL := Lib.hid hcl
      have HOP5 := Lib.hid oP5
      have HST5 := Lib.hid st5
      clear hsl hpp hcl bW o4 oP4 p4 pP4 hb5 b4 ho5 o5 st5 oP5
      go_wp2_with (at_builtin; (try rw [hW]); refine wpList_append_one infoRow rfl (by decide) rfl _ _ 25 rfl Tryz.underlying25 w.heap.size g d vs l rfl hl.out HO5.out w5.heap.size 1 (.slice (some ⟨g5, 0, none⟩) ln d5) rfl HCL.out rfl (by have := hl.out; have := hli.out; omega) (by omega) ?_; intro g' c'' w6 h1 h2 h3; refine Hid.out ?_)
      refine Lib.hid ?_
      obtain ⟨cur, hcur⟩ := HO5.out.block
      have hpw6 := (p5.grown h2 hcur (by decide)).snoc ((pp5.grown h2 hcur (by decide)).mono (by omega))
      have hpP6 := pP5.grown h2 hcur (by decide)
      have hoP6 := HOP5.out.grown h2 (fun e => hgG e.symm)
      have hst6 : St w6 hh (acc ++ p) := K.keep HST5.out (h2.block hh (by omega) (fun e => hgh (by injection e with e; exact e.symm)))
      have hb6 : Below w.heap.size w w6 := b5.grown h2 (by omega) (fun j hj => by injection hj with hj; subst hj; exact HO5.out.lt'.1)
      have hg6 : g' ≠ G := by
        rcases h3 with rfl | rfl
        · exact hgG
        · have := HOP5.out.lt'.2; omega
      have hz6 := h2.size
      have E1 := Lib.hid hpw6
      have E2 := Lib.hid hpP6
      have E3 := Lib.hid hoP6
      have E4 := Lib.hid hst6
      have E5 := Lib.hid hb6
      have E6 := Lib.hid h1
      clear hpw6 hpP6 hoP6 hst6 hb6 h1 h2 h3 hcur p5 pP5 pp5 b5 hW
      go_wp2_with fail
      go_roundg (gk - 1)
      case measure => have := HI.out; omega
      case rel =>
        refine ⟨i + 1, g', c'', _, _, acc ++ p, _, by have := HI.out; omega, by go_num, rfl, ?_, ?_, E6, E1, E4, E3, E2, hg6, ?_, E5, by omega, by omega⟩
        · show _ = _; rw [List.length_append, List.length_singleton]
        · show _ = _; have := hl.out; have := hli.out; omega
        · show _ = _; rw [List.append_assoc]; exact HEQ.out
    · have hz : ps.drop i = [] := List.drop_eq_nil_of_le (by have := HMP.out; have := hpP.out.1; omega)
      have heq' := heq.out
      rw [hz, sumsFrom, List.append_nil] at heq'
      have hp' := hp.out
      rw [heq', HPS.out] at hp'
      have HP' := Lib.hid hp'
      clear hz heq' hp'
      go_wp2_with fail
      go_ret
      have hl' := hl.out
      subst hl'
      exact ⟨g, d, vs, rfl, ho.out, HP'.out, hbel.out⟩

end Go.Proofs.YtemojkjcnkbpoaaGreatDoor

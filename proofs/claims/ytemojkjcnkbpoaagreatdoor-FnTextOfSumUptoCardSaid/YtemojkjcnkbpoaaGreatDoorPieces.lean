/-
  impl.pieces returns copies of the pieces of data. Condition: at most 1048576 cuts, and the lengths' bounds.
-/
import Derived.Test.YtemojkjcnkbpoaaGreatDoorRows1
import Derived.Test.YtemojkjcnkbpoaaGreatDoorOwn
import Derived.Test.YtemojkjcnkbpoaaGreatDoorSame
import Derived.Test.YtemojkjcnkbpoaaGreatDoorArgs
import Derived.Deep.LoopGhost
import Derived.Deep.DeepCutAuto
namespace Go.Proofs.YtemojkjcnkbpoaaGreatDoor
open Go.RowKit
set_option linter.unusedVariables false

/-- the pieces of data -/
def pcs (bs : List UInt8) : List Int → List (List UInt8)
  | [] => [bs]
  | z :: r => bs.take z.toNat :: pcs (bs.drop z.toNat) r

theorem pcs_step (bs : List UInt8) (z : Int) (r : List Int) (q : Nat) (hq : q = min z.toNat bs.length) : pcs bs (z :: r) = bs.take q :: pcs (bs.drop q) r := by
  subst hq
  by_cases h : z.toNat ≤ bs.length
  · rw [Nat.min_eq_left h]; rfl
  · rw [Nat.min_eq_right (by omega), pcs, List.take_of_length_le (by omega), List.take_of_length_le (Nat.le_refl _), List.drop_eq_nil_of_le (by omega), List.drop_eq_nil_of_le (Nat.le_refl _)]

/-- a value of a row of slices: a piece in a block of its own -/
def PieceAt (w : World) (base : Nat) (v : Value) (p : List UInt8) : Prop :=
  ∃ gi di cs, v = .slice (some ⟨gi, 0, none⟩) p.length di ∧ base ≤ gi ∧ w.heap[gi]? = some (.cells cs 5 (0, 0)) ∧ p.length ≤ di ∧ di ≤ maxLen ∧ cs.toList.take p.length = p.map bv

theorem PieceAt.keep {w w' : World} {base : Nat} {v : Value} {p : List UInt8} (h : PieceAt w base v p) (hk : ∀ (gi : Nat) (cs : Array Value), w.heap[gi]? = some (.cells cs 5 (0, 0)) → w'.heap[gi]? = w.heap[gi]?) : PieceAt w' base v p := by
  obtain ⟨gi, di, cs, h1, h2, h3, h4, h5, h6⟩ := h
  exact ⟨gi, di, cs, h1, h2, (hk gi cs h3).trans h3, h4, h5, h6⟩
theorem heap_lt {w : World} {k : Nat} {o : Obj} (h : w.heap[k]? = some o) : k < w.heap.size := (Array.getElem?_eq_some_iff.1 h).1
theorem PieceAt.below {w w' : World} {base : Nat} {v : Value} {p : List UInt8} (h : PieceAt w base v p) (hb : Below w.heap.size w w') : PieceAt w' base v p :=
  h.keep fun gi cs hg => hb.block gi (heap_lt hg)
theorem PieceAt.grown {w w' : World} {base g : Nat} {v : Value} {p : List UInt8} {cur : Array Value} {T : TypeId} (h : PieceAt w base v p) (hg : w.grownBy w' (some g)) (hc : w.heap[g]? = some (.cells cur T (0, 0))) (hT : T ≠ 5) : PieceAt w' base v p :=
  h.keep fun gi cs hh => hg.block gi (heap_lt hh) (fun e => by
    injection e with e
    subst e
    rw [hc] at hh
    injection hh with hh
    injection hh with _ hh
    exact hT hh)
theorem PieceAt.mono {w : World} {base base' : Nat} {v : Value} {p : List UInt8} (h : PieceAt w base v p) (hb : base' ≤ base) : PieceAt w base' v p := by
  obtain ⟨gi, di, cs, h1, h2, h3⟩ := h
  exact ⟨gi, di, cs, h1, by omega, h3⟩
theorem Own.piece {w : World} {base g c : Nat} {p : List UInt8} (h : Own w base g c p) : PieceAt w base (.slice (some ⟨g, 0, none⟩) p.length c) p := by
  rcases h.2 with ⟨e, _⟩ | ⟨g', c', cur, e, hb, hh, h1, h2, h3, h4⟩
  · cases e
  · injection e with e1 e2 e3
    injection e1 with e1
    injection e1 with e1
    subst e1 e3
    exact ⟨g, c, cur, rfl, hb, hh, h1, h2, by simpa using h4⟩
theorem PieceAt.rd {w : World} {base gi n di : Nat} {p : List UInt8} (h : PieceAt w base (.slice (some ⟨gi, 0, none⟩) n di) p) : Rd w w.heap.size (some ⟨gi, 0, none⟩) p := by
  obtain ⟨g', d', cs, h1, h2, h3, h4, h5, h6⟩ := h
  injection h1 with e1
  injection e1 with e1
  injection e1 with e1
  subst e1
  refine .inr ⟨gi, 0, rfl, heap_lt h3, fun i x hx => ?_⟩
  rw [cell_of_row w _ _ _ _ _ h3, Nat.zero_add]
  have hi : i < p.length := (List.getElem?_eq_some_iff.1 hx).1
  have : (p.map bv)[i]? = some (bv x) := by simp [hx]
  rw [← h6, List.getElem?_take_of_lt hi] at this
  rw [← Array.getElem?_toList]
  exact this

/-- a row of slices: each a piece -/
def Pieces (w : World) (base : Nat) (vs : List Value) (ps : List (List UInt8)) : Prop :=
  vs.length = ps.length ∧ ∀ (i : Nat) v p, vs[i]? = some v → ps[i]? = some p → PieceAt w base v p
theorem Pieces.nil (w : World) (base : Nat) : Pieces w base [] [] := ⟨rfl, fun i v p h => by simp at h⟩
theorem Pieces.below {w w' : World} {base : Nat} {vs : List Value} {ps : List (List UInt8)} (h : Pieces w base vs ps) (hb : Below w.heap.size w w') : Pieces w' base vs ps :=
  ⟨h.1, fun i v p h1 h2 => (h.2 i v p h1 h2).below hb⟩
theorem Pieces.grown {w w' : World} {base g : Nat} {vs : List Value} {ps : List (List UInt8)} {cur : Array Value} {T : TypeId} (h : Pieces w base vs ps) (hg : w.grownBy w' (some g)) (hc : w.heap[g]? = some (.cells cur T (0, 0))) (hT : T ≠ 5) : Pieces w' base vs ps :=
  ⟨h.1, fun i v p h1 h2 => (h.2 i v p h1 h2).grown hg hc hT⟩
theorem Pieces.snoc {w : World} {base : Nat} {vs : List Value} {ps : List (List UInt8)} {v : Value} {p : List UInt8} (h : Pieces w base vs ps) (hv : PieceAt w base v p) : Pieces w base (vs ++ [v]) (ps ++ [p]) := by
  refine ⟨by simp [h.1], fun i u q h1 h2 => ?_⟩
  by_cases hi : i < vs.length
  · rw [List.getElem?_append_left hi] at h1
    rw [List.getElem?_append_left (by rw [← h.1]; exact hi)] at h2
    exact h.2 i u q h1 h2
  · rw [List.getElem?_append_right (by omega)] at h1
    rw [List.getElem?_append_right (by rw [← h.1]; omega), ← h.1] at h2
    have hl := (List.getElem?_eq_some_iff.1 h1).1
    rw [List.length_singleton] at hl
    have e : i - vs.length = 0 := by omega
    rw [e] at h1 h2
    simp at h1 h2
    subst h1 h2
    exact hv
theorem OwnV.block {T : TypeId} {w : World} {base g c : Nat} {vs : List Value} (h : OwnV T w base g c vs) : ∃ cur, w.heap[g]? = some (.cells cur T (0, 0)) := by
  rcases h.2 with ⟨e, _⟩ | ⟨g', c', cur, e, hb, hh, _⟩
  · cases e
  · injection e with e1 e2 e3
    injection e1 with e1
    injection e1 with e1
    subst e1
    exact ⟨cur, hh⟩
theorem OwnV.below {T : TypeId} {w w' : World} {base g c : Nat} {vs : List Value} (h : OwnV T w base g c vs) (hb : Below w.heap.size w w') : OwnV T w' base g c vs := by
  refine ⟨h.1, ?_⟩
  rcases h.2 with ⟨e, h2⟩ | ⟨g', c', cur, e, hb', hh, hr⟩
  · exact .inl ⟨e, h2⟩
  · exact .inr ⟨g', c', cur, e, hb', (hb.block g' (heap_lt hh)).trans hh, hr⟩

set_option maxRecDepth 100000 in
set_option maxHeartbeats 4000000 in
theorem pieces_any (A : Option Addr) (n c : Nat) (bs : List UInt8) (A2 : Option Addr) (m c2 : Nat) (zs : List Int) (w : World) (hn : n = bs.length) (h : Rd w w.heap.size A bs) (hnc : n ≤ c) (hc : c ≤ 140737488351232) (hm : m = zs.length) (h2 : RdI w w.heap.size A2 zs) (hml : m ≤ 1048576) :
    Calls Tryz.prog 18 #[.slice A n c, .slice A2 m c2] w fun e w' => ∃ g d vs, e = .returned (.slice (some ⟨g, 0, none⟩) vs.length d) ∧ OwnV 22 w' w.heap.size g d vs ∧ Pieces w' w.heap.size vs (pcs bs zs) ∧ Below w.heap.size w w' := by
  have HN := Lib.hid hn
  have HM := Lib.hid hm
  have HRD := Lib.hid h
  have HRI := Lib.hid h2
  clear hn hm h h2
  go_enter Tryz.func18, Tryz.ntmps18
  go_wp2_with fail
  go_loopg [0, 5, 12] m (fun gk dv ov ix wr => ∃ (i : Nat) (A' : Option Addr) (n' c' g d l : Nat) (rest : List UInt8) (vs : List Value) (done : List (List UInt8)), i + gk = m ∧ ix = .int .i64 (i : Int) ∧ dv = .slice A' n' c' ∧ n' ≤ c' ∧ c' ≤ 140737488351232 ∧
    Hid (n' = rest.length) ∧ Hid (Rd w w.heap.size A' rest) ∧ ov = .slice (some ⟨g, 0, none⟩) l d ∧ Hid (l = vs.length) ∧ Hid (l = i) ∧ Hid (OwnV 22 wr w.heap.size g d vs) ∧ Hid (Pieces wr w.heap.size vs done) ∧ Hid (done ++ pcs rest (zs.drop i) = pcs bs zs) ∧ Hid (Below w.heap.size w wr))
  case atStart => exact ⟨0, A, n, c, w.heap.size, 0, 0, bs, [], [], by omega, rfl, rfl, hnc, hc, HN, HRD, rfl, rfl, rfl, OwnV.empty _ w _ (Nat.le_refl _), Pieces.nil _ _, rfl, (Below.refl _ _).alloc (Nat.le_refl _) _⟩
  case round =>
    obtain ⟨i, A', n', c', g, d, l, rest, vs, done, hi, rfl, rfl, hnc', hc', hn', hrd, rfl, hl, hli, hown, hpcs, heq, hbel⟩ := hrel
    have HI := Lib.hid hi
    have him : i ≤ m := by omega
    clear hi
    have hsz := hbel.out.size
    by_cases hlt : i < m
    · obtain ⟨b, off, z, rfl, hb, hz, hcz⟩ : ∃ b off z, A2 = some ⟨b, off, none⟩ ∧ b < w.heap.size ∧ zs[i]? = some z ∧ w.cell? ⟨b, off + i, none⟩ = some (.int .i64 z) := by
        have hil : i < zs.length := by have := HM.out; omega
        rcases HRI.out.2 with e | ⟨b, off, e, hb, hc⟩
        · rw [e] at hil; simp at hil
        · exact ⟨b, off, zs[i], e, hb, List.getElem?_eq_getElem hil, hc i _ (List.getElem?_eq_getElem hil)⟩
      have hcz' : wr.cell? ⟨b, off + i, none⟩ = some (.int .i64 z) := (hbel.out.cell (p := ⟨b, off + i, none⟩) hb).trans hcz
      obtain ⟨q, hq⟩ : ∃ q : Nat, q = min z.toNat n' := ⟨_, rfl⟩
      have hqn : q ≤ n' := by omega
      have HQ := Lib.hid hq
      have hzb := HRI.out.1 z (List.mem_of_getElem? hz)
      have HZ := Lib.hid hz
      clear hq hz hcz
      go_upto_region 5 with (fail)
      go_cut [8] from 13 to 31 (fun x wc => x = .int .i64 (q : Int) ∧ wc = wr)
      case first =>
        have hq := HQ.out
        clear HQ
        go_wp2_with fail
        all_goals go_meet
        all_goals (refine ⟨?_, rfl⟩; congr 1; omega)
      case rest =>
        obtain ⟨rfl, rfl⟩ := hcut
        have hlen : q = (rest.take q).length := by have := hn'.out; rw [List.length_take]; omega
        have HLEN := Lib.hid hlen
        clear hlen
        go_wp2_with fail
        refine (own_any A' q c' (rest.take q) wc HLEN.out (((hrd.out.below hbel.out).take q).mono hsz) (by have := HLEN.out; omega)).mono ?_
        rintro e w2 ⟨g2, d2, rfl, ho2, hb2⟩
        have hown2 := hown.out.below hb2
        have hpc2 := hpcs.out.below hb2
        have hpp := ho2.piece
        rw [← HLEN.out] at hpp ⊢
        have hpp3 : PieceAt (w2.alloc (.cells #[.slice (some ⟨g2, 0, none⟩) q d2] 22)) wc.heap.size (.slice (some ⟨g2, 0, none⟩) q d2) (rest.take q) := hpp.below ((Below.refl _ _).alloc (Nat.le_refl _) _)
        have hown3 : OwnV 22 (w2.alloc (.cells #[.slice (some ⟨g2, 0, none⟩) q d2] 22)) w.heap.size g d vs := hown2.below ((Below.refl _ _).alloc (Nat.le_refl _) _)
        have hpc3 : Pieces (w2.alloc (.cells #[.slice (some ⟨g2, 0, none⟩) q d2] 22)) w.heap.size vs done := hpc2.below ((Below.refl _ _).alloc (Nat.le_refl _) _)
        have hcl : (w2.alloc (.cells #[.slice (some ⟨g2, 0, none⟩) q d2] 22)).cell? ⟨w2.heap.size, 0, none⟩ = some (.slice (some ⟨g2, 0, none⟩) q d2) := by
          rw [cell_of_row _ w2.heap.size _ _ _ _ (heap_alloc_new w2 _)]; rfl
        have z2 := hb2.size
        have hb3 : Below w.heap.size w (w2.alloc (.cells #[.slice (some ⟨g2, 0, none⟩) q d2] 22)) := (hbel.out.trans (hb2.mono hsz)).alloc (by omega) _
        have s3 : (w2.alloc (.cells #[.slice (some ⟨g2, 0, none⟩) q d2] 22)).heap.size = w2.heap.size + 1 := by simp
        have HOWN3 := Lib.hid hown3
        have HCL := Lib.hid hcl
        clear hown3 hcl hown2 hpc2 hpp ho2 hb2
        go_wp2_with (at_builtin; refine wpList_append_one infoRow rfl (by decide) rfl _ _ 25 rfl Tryz.underlying25 w.heap.size g d vs l rfl hl.out HOWN3.out w2.heap.size 1 (.slice (some ⟨g2, 0, none⟩) q d2) rfl HCL.out rfl (by have := hl.out; have := hli.out; omega) (by omega) ?_; intro g' c'' w3 h1 h2 h3; clear h3)
        all_goals
          have h1' := h1
          have hl' := hl.out
          obtain ⟨cur, hcur⟩ := HOWN3.out.block
          have hpw3 := (hpc3.grown h2 hcur (by decide)).snoc ((hpp3.grown h2 hcur (by decide)).mono hsz)
          have hbw3 : Below w.heap.size w w3 := hb3.grown h2 (by omega) (fun j hj => by injection hj with hj; subst hj; exact HOWN3.out.lt'.1)
          have hnext : (done ++ [rest.take q]) ++ pcs (rest.drop q) (zs.drop (i + 1)) = pcs bs zs := by
            have hd : zs.drop i = z :: zs.drop (i + 1) := by
              obtain ⟨hl, he⟩ := List.getElem?_eq_some_iff.1 HZ.out
              rw [List.drop_eq_getElem_cons hl, he]
            have h := heq.out
            rw [hd, pcs_step rest z _ q (by rw [HQ.out, hn'.out])] at h
            rw [List.append_assoc]; exact h
          have HNX := Lib.hid hnext
          have HPW := Lib.hid hpw3
          have HBW := Lib.hid hbw3
          have HO1 := Lib.hid h1
          clear h1 h2 hl' hcur hpw3 hbw3 hnext hpc3 hpp3 hb3
          go_wp2_with fail
          go_roundg (gk - 1)
        all_goals first
          | (case measure => have := HI.out; omega)
          | (case rel =>
              refine ⟨i + 1, _, _, _, g', c'', _, rest.drop q, vs ++ [.slice (some ⟨g2, 0, none⟩) q d2], done ++ [rest.take q], by have := HI.out; omega, by go_num, rfl, by omega, by omega, ?_, ?_, rfl, ?_, ?_, HO1, HPW, HNX, HBW⟩
              · show _ = _; have := hn'.out; rw [List.length_drop]; omega
              · refine hrd.out.cut (fun b2 o2 e hlt2 => ?_)
                have := hn'.out
                first
                  | (exfalso; omega)
                  | (rw [e, Option.map_some, addr_add])
              · show _ = _; rw [List.length_append, List.length_singleton]
              · show _ = _; have := hl.out; have := hli.out; omega)
    · have hz : zs.drop i = [] := List.drop_eq_nil_of_le (by have := HM.out; omega)
      have heq' := heq.out
      rw [hz, pcs] at heq'
      have HE := Lib.hid heq'
      clear hz heq'
      go_wp2_with fail
      refine (own_any A' n' c' rest wr hn'.out ((hrd.out.below hbel.out).mono hsz) (by have := hn'.out; omega)).mono ?_
      rintro e w2 ⟨g2, d2, rfl, ho2, hb2⟩
      have hown2 := hown.out.below hb2
      have hpc2 := hpcs.out.below hb2
      have hpp := ho2.piece
      rw [← hn'.out] at hpp ⊢
      have hpp3 : PieceAt (w2.alloc (.cells #[.slice (some ⟨g2, 0, none⟩) n' d2] 22)) wr.heap.size (.slice (some ⟨g2, 0, none⟩) n' d2) rest := hpp.below ((Below.refl _ _).alloc (Nat.le_refl _) _)
      have hown3 : OwnV 22 (w2.alloc (.cells #[.slice (some ⟨g2, 0, none⟩) n' d2] 22)) w.heap.size g d vs := hown2.below ((Below.refl _ _).alloc (Nat.le_refl _) _)
      have hpc3 : Pieces (w2.alloc (.cells #[.slice (some ⟨g2, 0, none⟩) n' d2] 22)) w.heap.size vs done := hpc2.below ((Below.refl _ _).alloc (Nat.le_refl _) _)
      have hcl : (w2.alloc (.cells #[.slice (some ⟨g2, 0, none⟩) n' d2] 22)).cell? ⟨w2.heap.size, 0, none⟩ = some (.slice (some ⟨g2, 0, none⟩) n' d2) := by
        rw [cell_of_row _ w2.heap.size _ _ _ _ (heap_alloc_new w2 _)]; rfl
      have z2 := hb2.size
      have hb3 : Below w.heap.size w (w2.alloc (.cells #[.slice (some ⟨g2, 0, none⟩) n' d2] 22)) := (hbel.out.trans (hb2.mono hsz)).alloc (by omega) _
      have s3 : (w2.alloc (.cells #[.slice (some ⟨g2, 0, none⟩) n' d2] 22)).heap.size = w2.heap.size + 1 := by simp
      have HOWN3 := Lib.hid hown3
      have HCL := Lib.hid hcl
      clear hown3 hcl hown2 hpc2 hpp ho2 hb2
      go_wp2_with (at_builtin; refine wpList_append_one infoRow rfl (by decide) rfl _ _ 25 rfl Tryz.underlying25 w.heap.size g d vs l rfl hl.out HOWN3.out w2.heap.size 1 (.slice (some ⟨g2, 0, none⟩) n' d2) rfl HCL.out rfl (by have := hl.out; have := hli.out; omega) (by omega) ?_; intro g' c'' w3 h1 h2 h3; clear h3)
      obtain ⟨cur, hcur⟩ := HOWN3.out.block
      have hpw3 := (hpc3.grown h2 hcur (by decide)).snoc ((hpp3.grown h2 hcur (by decide)).mono hsz)
      have hbw3 : Below w.heap.size w w3 := hb3.grown h2 (by omega) (fun j hj => by injection hj with hj; subst hj; exact HOWN3.out.lt'.1)
      rw [HE.out] at hpw3
      go_ret
      exact ⟨g', c'', vs ++ [.slice (some ⟨g2, 0, none⟩) n' d2], by rw [List.length_append, List.length_singleton]; rfl, h1, hpw3, hbw3⟩

end Go.Proofs.YtemojkjcnkbpoaaGreatDoor

/-
  FnSteps: a text that comes in pieces is decoded without flushing, what has not been used is put ahead of the next piece, and at last it is flushed: all together are the data. Condition: the lengths' bounds.
-/
import Derived.Test.YtmddbfcghddacaaDoorRoom
import Derived.Test.YtmddbfcghddacaaDoorArgs
import Derived.Test.YtmddbfcghddacaaDoorApp2
import Derived.Deep.CutRange
namespace Go.Proofs.YtmddbfcghddacaaDoor
open Go.RowKit
set_option linter.unusedVariables false

/-- what stands behind i pieces: 'done' is decoded, 'rest' is not; of its text 't' is at hand; 'at' bytes of the text have come -/
structure StepSt (bs0 : List UInt8) (m i at_ : Nat) (t done rest : List UInt8) : Prop where
  sum : done ++ rest = bs0
  mid : i ≤ m → ∃ j, done.length = 4 * j ∧ at_ = (Asc.enc done).length + t.length ∧ t <+: Asc.enc rest
  fin : i = m + 1 → done = bs0 ∧ t = []

theorem StepSt.start (bs0 : List UInt8) (m : Nat) : StepSt bs0 m 0 0 [] [] bs0 :=
  ⟨rfl, fun _ => ⟨0, rfl, by simp [Asc.enc], by simp⟩, fun h => by omega⟩

theorem StepSt.at_le {bs0 : List UInt8} {m i at_ : Nat} {t done rest : List UInt8} (h : StepSt bs0 m i at_ t done rest) (hi : i ≤ m) : at_ ≤ (Asc.enc bs0).length ∧ t.length ≤ at_ ∧ done.length ≤ bs0.length := by
  obtain ⟨j, h1, h2, h3⟩ := h.mid hi
  have he := Asc.enc_append j done rest h1
  rw [h.sum] at he
  have := h3.length_le
  have hs : bs0.length = done.length + rest.length := by rw [← h.sum, List.length_append]
  rw [he, List.length_append]
  omega

/-- one piece more -/
theorem StepSt.next {bs0 : List UInt8} {m i at_ : Nat} {t done rest : List UInt8} (h : StepSt bs0 m i at_ t done rest) (hi : i ≤ m) (q : Nat) (hq : at_ + q ≤ (Asc.enc bs0).length) (hl : i = m → at_ + q = (Asc.enc bs0).length) (fl : Bool) (hfl : fl = decide (i = m)) :
    ∃ o1 u1 rest2, Asc.dec (4 * (t ++ ((Asc.enc bs0).drop at_).take q).length + 8) fl (t ++ ((Asc.enc bs0).drop at_).take q).length (t ++ ((Asc.enc bs0).drop at_).take q) 0 0 0 0 [] = (o1, u1, none) ∧ u1 ≤ (t ++ ((Asc.enc bs0).drop at_).take q).length ∧
      (done ++ o1).length ≤ bs0.length ∧ StepSt bs0 m (i + 1) (at_ + q) ((t ++ ((Asc.enc bs0).drop at_).take q).drop u1) (done ++ o1) rest2 := by
  obtain ⟨j, h1, h2, h3⟩ := h.mid hi
  have he := Asc.enc_append j done rest h1
  rw [h.sum] at he
  have htl := h3.length_le
  have e1 : t ++ ((Asc.enc bs0).drop at_).take q = (Asc.enc rest).take (t.length + q) := by
    rw [he, h2, List.drop_append, List.drop_eq_nil_of_le (by omega), List.nil_append, show (Asc.enc done).length + t.length - (Asc.enc done).length = t.length by omega, List.take_add]
    conv => lhs; arg 1; rw [Asc.pre_take h3]
  have hlen : (t ++ ((Asc.enc bs0).drop at_).take q).length = t.length + q := by
    rw [List.length_append, List.length_take, List.length_drop]
    omega
  have hs : bs0.length = done.length + rest.length := by rw [← h.sum, List.length_append]
  rw [hlen]
  rw [e1]
  by_cases him : i = m
  · have hfull : (Asc.enc rest).take (t.length + q) = Asc.enc rest := List.take_of_length_le (by have := hl him; rw [he, List.length_append] at this; omega)
    have hg := Asc.groups_le rest
    have hll : t.length + q = (Asc.enc rest).length := by have := hl him; rw [he, List.length_append] at this; omega
    rw [hfull]
    subst hfl
    rw [show decide (i = m) = true by simp [him]]
    refine ⟨rest, t.length + q, [], ?_, Nat.le_refl _, by rw [List.length_append]; omega, ⟨by rw [List.append_nil]; exact h.sum, fun h' => by omega, fun _ => ⟨h.sum, List.drop_eq_nil_of_le (by omega)⟩⟩⟩
    have := Asc.dec_all (room := 4 * (t.length + q) + 8) (len := t.length + q) rest 0 0 [] (by simp; omega)
    simpa using this
  · have hp : (Asc.enc rest).take (t.length + q) <+: Asc.enc rest := List.take_prefix _ _
    have hlt : ((Asc.enc rest).take (t.length + q)).length = t.length + q := by rw [← e1]; exact hlen
    subst hfl
    rw [show decide (i = m) = false by simp [him]]
    obtain ⟨k, k1, k2, k3, k4⟩ := Asc.dec_pre (room := 4 * (t.length + q) + 8) (len := t.length + q) rest _ 0 [] hp (by rw [hlt]; simp)
    rw [List.nil_append, Nat.zero_add] at k4
    rw [hlt] at k2
    have hk : (rest.take (4 * k)).length = 4 * k := by rw [List.length_take]; omega
    refine ⟨_, _, rest.drop (4 * k), k4, k2, by rw [List.length_append, hk]; omega, ⟨by rw [List.append_assoc, List.take_append_drop]; exact h.sum, fun _ => ⟨j + k, by rw [List.length_append, hk]; omega, ?_, k3⟩, fun h' => by omega⟩⟩
    rw [Asc.enc_append j done _ h1, List.length_append, List.length_drop, hlt]
    omega

set_option maxRecDepth 100000 in
set_option maxHeartbeats 4000000 in
theorem steps_walk (A0 : Option Addr) (c0 : Nat) (bs0 : List UInt8) (A1 : Option Addr) (c1 : Nat) (zs1 : List Int) (w : World) (rd0 : Rd w w.heap.size A0 bs0) (lc0 : bs0.length ≤ c0) (lm0 : c0 ≤ 1048576) (rd1 : RdI w w.heap.size A1 zs1) (lc1 : zs1.length ≤ c1) (lm1 : c1 ≤ 1048576)
    (hlaid : w.cell? ⟨0, 0, none⟩ = some (.iface 61 (.agg #[.pointer (some ⟨1, 39, none⟩)]))) :
    Calls Tryd.prog 3 #[.slice A0 bs0.length c0, .slice A1 zs1.length c1] w fun e w' => e = .returned (.bool true) ∧ Below w.heap.size w w' := by
  clear hlaid
  obtain ⟨n, hn⟩ : ∃ n, n = bs0.length := ⟨_, rfl⟩
  obtain ⟨m, hm⟩ : ∃ n, n = zs1.length := ⟨_, rfl⟩
  rw [← hn] at lc0
  rw [← hm] at lc1
  rw [← hn, ← hm]
  have HN := Lib.hid hn
  have HM := Lib.hid hm
  have RD1 := Lib.hid rd1
  clear hn hm rd1
  obtain ⟨T, hT⟩ : ∃ T, T = (Asc.enc bs0).length := ⟨_, rfl⟩
  have lT : T ≤ 1310725 := by have := Asc.enc_len bs0; have := HN.out; omega
  have HT := Lib.hid hT
  clear hT
  go_enter Tryd.func3, Tryd.ntmps3
  go_wp2_with fail
  refine (impl_encode A0 n c0 bs0 w HN.out rd0 (by have := HN.out; omega)).mono ?_
  rintro e w1 ⟨gt, dT, rfl, hd1, hd2, hg1, hg2, hrd, hb1⟩
  rw [← HT.out] at hd1 ⊢
  have z1 := hb1.size
  have HRD := Lib.hid hrd
  have HB1 := Lib.hid hb1
  clear hrd hb1
  go_wp2_with fail
  go_loopg [6, 7, 8, 9] (m + 1) (fun gk lv ov av ix wr => ∃ (i ll cl gl lo co go at_ : Nat) (t done rest : List UInt8), i + gk = m + 1 ∧ ix = .int .i64 (i : Int) ∧ av = .int .i64 (at_ : Int) ∧ lv = .slice (some ⟨gl, 0, none⟩) ll cl ∧ ov = .slice (some ⟨go, 0, none⟩) lo co ∧ Hid (ll = t.length) ∧ Hid (lo = done.length) ∧ gl ≠ go ∧
    Hid (Own wr w1.heap.size gl cl t) ∧ Hid (Own wr w1.heap.size go co done) ∧ Hid (StepSt bs0 m i at_ t done rest) ∧ Hid (Below w1.heap.size w1 wr))
  case atStart =>
    refine ⟨0, 0, 0, w1.heap.size, 0, 0, w1.heap.size + 1, 0, [], [], bs0, by omega, rfl, rfl, rfl, rfl, rfl, rfl, by omega, ?_, ?_, StepSt.start _ _, ((Below.refl _ _).alloc (Nat.le_refl _) _).alloc (by simp) _⟩
    · exact (Own.empty w1 _ (Nat.le_refl _)).alloc _
    · have := Own.empty (w1.alloc (.cells #[] 5)) w1.heap.size (by simp)
      rw [show (w1.alloc (.cells #[] 5)).heap.size = w1.heap.size + 1 by simp] at this
      exact this
  case round =>
    obtain ⟨i, ll, cl, gl, lo, co, go, at_, t, done, rest, hi, rfl, rfl, rfl, rfl, hll, hlo, hne, hown, houn, hst, hbel⟩ := hrel
    have HI := Lib.hid hi
    have him1 : i ≤ m + 1 := by omega
    have zr := hbel.out.size
    clear hi
    by_cases hlt : i ≤ m
    · obtain ⟨a1, a2, a3⟩ := hst.out.at_le hlt
      rw [← HT.out] at a1
      rw [← HN.out] at a3
      have t1 : decide ((i : Int) ≤ (m : Int)) = true := by simp; omega
      obtain ⟨q, hq1, hq2, hq3⟩ : ∃ q : Nat, at_ + q ≤ T ∧ (i = m → at_ + q = T) ∧ (∀ z, zs1[i]? = some z → q = min z.toNat (T - at_)) := by
        by_cases h : i < m
        · obtain ⟨z, hz⟩ : ∃ z, zs1[i]? = some z := ⟨_, List.getElem?_eq_getElem (by have := HM.out; omega)⟩
          exact ⟨min z.toNat (T - at_), by omega, fun e => by omega, fun z' hz' => by rw [hz] at hz'; injection hz' with hz'; rw [hz']⟩
        · exact ⟨T - at_, by omega, fun e => by omega, fun z hz => by have := (List.getElem?_eq_some_iff.1 hz).1; have := HM.out; omega⟩
      have HQ3 := Lib.hid hq3
      have HQ2 := Lib.hid hq2
      clear hq3 hq2
      go_upto_if 29 with (fail)
      go_cut [10] from 16 to 78 (fun x wc => x = .int .i64 (q : Int) ∧ wc = wr)
      case first =>
        by_cases h : i < m
        · obtain ⟨b, off, z, rfl, hb, hz, hcz⟩ : ∃ b off z, A1 = some ⟨b, off, none⟩ ∧ b < w.heap.size ∧ zs1[i]? = some z ∧ w.cell? ⟨b, off + i, none⟩ = some (.int .i64 z) := by
            have hil : i < zs1.length := by have := HM.out; omega
            rcases RD1.out.2 with e | ⟨b, off, e, hb, hc⟩
            · rw [e] at hil; simp at hil
            · exact ⟨b, off, zs1[i], e, hb, List.getElem?_eq_getElem hil, hc i _ (List.getElem?_eq_getElem hil)⟩
          have hcz' : wr.cell? ⟨b, off + i, none⟩ = some (.int .i64 z) := ((hbel.out.cell (p := ⟨b, off + i, none⟩) (show b < _ by omega)).trans (HB1.out.cell (p := ⟨b, off + i, none⟩) hb)).trans hcz
          have hq := HQ3.out z hz
          have hzb := RD1.out.1 z (List.mem_of_getElem? hz)
          clear hz hcz
          go_wp2_with fail
          all_goals go_meet
          all_goals (refine ⟨?_, rfl⟩; congr 1; omega)
        · have hq := HQ2.out (by omega)
          go_wp2_with fail
          all_goals go_meet
          all_goals (refine ⟨?_, rfl⟩; congr 1; omega)
      case rest =>
        obtain ⟨rfl, rfl⟩ := hcut
        obtain ⟨fl, efl⟩ : ∃ fl, fl = decide (i = m) := ⟨_, rfl⟩
        obtain ⟨o1, u1, rest2, hd, hu1, hbl, hst2⟩ := hst.out.next hlt q (by rw [← HT.out]; exact hq1) (fun e => by rw [← HT.out]; exact HQ2.out e) fl efl
        have tfl : ((i : Int) == (m : Int)) = fl := by
          rw [efl]
          by_cases e : i = m
          · simp [e]
          · rw [decide_eq_false e]; exact beq_eq_false_iff_ne.2 (by omega)
        obtain ⟨u, eu⟩ : ∃ u, u = ((Asc.enc bs0).drop at_).take q := ⟨_, rfl⟩
        rw [← eu] at hd hu1 hst2
        have ul : q = u.length := by rw [eu, List.length_take, List.length_drop, ← HT.out]; omega
        have hsrc : ∀ A2, (0 < q → A2 = some ⟨gt, at_, none⟩) → Rd wc w1.heap.size A2 u := fun A2 hA2 => by
          by_cases h0 : 0 < q
          · rw [eu]
            refine Rd.take (Rd.cut (HRD.out.below hbel.out) (fun b off e _ => ?_)) q
            injection e with e
            injection e with e1 e2
            subst e1 e2
            rw [hA2 h0, Nat.zero_add]
          · exact .inl (List.eq_nil_of_length_eq_zero (by omega))
        obtain ⟨l2, el2⟩ : ∃ l2, l2 = (t ++ u).length := ⟨_, rfl⟩
        have l2b : l2 = ll + q := by rw [el2, List.length_append, ← hll.out, ← ul]
        rw [← el2] at hd hu1
        rw [← HN.out] at hbl
        have UL := Lib.hid ul
        have HSRC := Lib.hid hsrc
        have HD := Lib.hid hd
        have HST2 := Lib.hid hst2
        have EL2 := Lib.hid el2
        have hll2 := hll.out
        have l2m : l2 ≤ 1310725 := by omega
        have L2B := Lib.hid l2b
        have HLL2 := Lib.hid hll2
        have hlaw := hown.out.lt'
        have hgo := houn.out.lt'
        have lq : ll + q ≤ 1310725 := by omega
        clear eu ul hsrc hd hst2 el2 efl l2b hll2
        go_upto_region 9 with (fail)
        obtain ⟨wb, rfl⟩ : ∃ wb : World, wb = wc := ⟨_, rfl⟩
        go_cut [6] from 16 to 78 (fun x wd => ∃ gl' cl', x = .slice (some ⟨gl', 0, none⟩) l2 cl' ∧ Hid (Own wd w1.heap.size gl' cl' (t ++ u)) ∧ Hid (wb.grownBy wd (some gl)) ∧ (gl' = gl ∨ gl' = wb.heap.size))
        case first =>
          by_cases hda : dT = at_
          · subst hda
            have q0 : q = 0 := by omega
            have Q0 := Lib.hid q0
            clear q0
            go_wp2_with (at_builtin; refine wpList_append_bytes_at rfl _ _ 22 rfl Tryd.underlying22 w1.heap.size gl cl t u ll _ rfl hll.out hown.out w1.heap.size _ _ rfl (by have := UL.out; omega) (HSRC.out _ (fun h => absurd Q0.out (by omega))) (by have := UL.out; have := hll.out; omega) zr ?_; intro gl' cl' w2 h1' h2' h3')
            go_meet
            exact ⟨gl', cl', by rw [EL2.out]; simp, h1', h2', h3'⟩
          · go_wp2_with (at_builtin; refine wpList_append_bytes_at rfl _ _ 22 rfl Tryd.underlying22 w1.heap.size gl cl t u ll _ rfl hll.out hown.out w1.heap.size _ _ rfl (by have := UL.out; omega) (HSRC.out _ (fun h => by simp)) (by have := UL.out; have := hll.out; omega) zr ?_; intro gl' cl' w2 h1' h2' h3')
            go_meet
            exact ⟨gl', cl', by rw [EL2.out]; simp, h1', h2', h3'⟩
        case rest =>
          obtain ⟨gl', cl', rfl, hO2, hG2, hat⟩ := hcut
          have z2 := hG2.out.size
          have bel2 : Below w1.heap.size w1 wc := hbel.out.grown hG2.out zr (fun j hj => by injection hj with hj; subst hj; exact hlaw.1)
          have ou2 := houn.out.grown hG2.out hne.symm
          have hne2 : gl' ≠ go := by
            rcases hat with rfl | rfl
            · exact hne
            · omega
          have hcl := hO2.out.2
          have hcl' : l2 ≤ cl' ∧ cl' ≤ 9223372036854775807 := by
            rcases hcl with ⟨e, _⟩ | ⟨g', c', cur, e, _, _, h1, h2, _⟩
            · cases e
            · injection e with _ _ e3
              subst e3
              exact ⟨by rw [EL2.out]; exact h1, h2⟩
          obtain ⟨lc1', lc2'⟩ := hcl'
          clear hcl hat
          go_wp2_with fail
          refine (whole_any (some ⟨gl', 0, none⟩) l2 cl' (t ++ u) fl wc EL2.out hO2.out.rd (by omega) o1 u1 (by rw [← EL2.out]; exact HD.out)).mono ?_
          rintro e w3 ⟨g3, rfl, hu3, hol, hge, hrd3, hb3⟩
          obtain ⟨lo1, el1⟩ : ∃ l, l = o1.length := ⟨_, rfl⟩
          rw [← el1] at hol ⊢
          have EL1 := Lib.hid el1
          have z3 := hb3.size
          obtain ⟨R, eR⟩ : ∃ R, R = 4 * l2 + 8 := ⟨_, rfl⟩
          rw [← eR] at hol ⊢
          have own3 : Own (w3.alloc (.cells #[.slice (some ⟨g3, 0, none⟩) lo1 R, .int .i64 (u1 : Int), .int .i64 (-1)] 26)) w1.heap.size go co done := (ou2.below hb3).alloc _
          have owl3 : Own (w3.alloc (.cells #[.slice (some ⟨g3, 0, none⟩) lo1 R, .int .i64 (u1 : Int), .int .i64 (-1)] 26)) w1.heap.size gl' cl' (t ++ u) := (hO2.out.below hb3).alloc _
          have rd3 : Rd (w3.alloc (.cells #[.slice (some ⟨g3, 0, none⟩) lo1 R, .int .i64 (u1 : Int), .int .i64 (-1)] 26)) w3.heap.size (some ⟨g3, 0, none⟩) o1 := hrd3.alloc (Nat.le_refl _) _
          have OWN3 := Lib.hid own3
          have OWL3 := Lib.hid owl3
          have RD3 := Lib.hid rd3
          have ldo : done.length + o1.length ≤ 1048576 := by rw [List.length_append] at hbl; omega
          have lolo : lo = done.length := hlo.out
          have hdl := hlo.out
          have t4 : decide ((l2 : Int) < (u1 : Int)) = false := by simp; omega
          have hgo3 := ou2.lt'
          have hgl3 := hO2.out.lt'
          clear el1 eR own3 owl3 rd3 hrd3 ou2 lolo hdl
          go_wp2_with (at_builtin; refine wpList_append_bytes_at rfl _ _ 22 rfl Tryd.underlying22 w1.heap.size go co done o1 lo lo1 rfl hlo.out OWN3.out w3.heap.size (some ⟨g3, 0, none⟩) R rfl EL1.out RD3.out (by omega) (by simp; omega) ?_; intro go4 co4 w4 h4a h4b h4c; refine Hid.out ?_)
          refine Lib.hid ?_
          have bel4 : Below w1.heap.size w1 w4 := ((bel2.trans (hb3.mono (by omega))).alloc (by omega) _).grown h4b (by simp; omega) (fun j hj => by injection hj with hj; subst hj; exact hgo3.1)
          have z4 := h4b.size
          simp at z4
          have hblk : w4.heap[w3.heap.size]? = some (.cells #[.slice (some ⟨g3, 0, none⟩) lo1 R, .int .i64 (u1 : Int), .int .i64 (-1)] 26 (0, 0)) := (h4b.block w3.heap.size (by simp) (fun e => by injection e with e; omega)).trans (heap_alloc_new w3 _)
          have cu : w4.cell? ⟨w3.heap.size, 1, none⟩ = some (.int .i64 (u1 : Int)) := by rw [cell_of_row w4 _ 1 _ _ _ hblk]; rfl
          have cu' : (w4.alloc (.cells #[] 5)).cell? ⟨w3.heap.size, 1, none⟩ = some (.int .i64 (u1 : Int)) := by rw [World.cell?_alloc_lt _ _ _ (by simp; omega)]; exact cu
          have owl4 := OWL3.out.grown h4b hne2
          have hlc : ∀ A2, (u1 < l2 → A2 = some ⟨gl', u1, none⟩) → Rd (w4.alloc (.cells #[] 5)) w4.heap.size A2 ((t ++ u).drop u1) := fun A2 hA2 => by
            refine ((owl4.rd.alloc (Nat.le_refl _) _)).cut (fun b off e hlt => ?_)
            injection e with e
            injection e with e1 e2
            subst e1 e2
            rw [hA2 (by rw [EL2.out]; exact hlt), Nat.zero_add]
          have OU4 := Lib.hid h4a
          have BEL4 := Lib.hid bel4
          have HLC := Lib.hid hlc
          have t6 : (u1 : Int) ≤ (l2 : Int) := by omega
          clear h4a h4b h4c bel4 hblk owl4 hlc OWN3 OWL3 RD3
          by_cases hcu : cl' = u1
          · have hul : u1 = l2 := by omega
            have HUL := Lib.hid hul
            clear hul
            go_wp2_with (at_builtin; refine wpList_append_bytes_at rfl _ _ 22 rfl Tryd.underlying22 w1.heap.size w4.heap.size 0 [] ((t ++ u).drop u1) 0 _ rfl rfl (Own.empty w4 _ (by omega)) w4.heap.size _ _ rfl (by rw [List.length_drop, ← EL2.out]) (HLC.out _ (fun h => absurd HUL.out (by omega))) (by rw [List.length_drop, ← EL2.out]; simp; omega) (by simp; omega) ?_; intro gl5 cl5 w5 h5a h5b h5c; refine Hid.out ?_)
            refine Lib.hid ?_
            rw [List.nil_append] at h5a
            have bel5 : Below w1.heap.size w1 w5 := (BEL4.out.alloc (by omega) _).grown h5b (by simp; omega) (fun j hj => by injection hj with hj; omega)
            have ou5 : Own w5 w1.heap.size go4 co4 (done ++ o1) := Own.grown (OU4.out.alloc (.cells #[] 5)) h5b (show go4 ≠ w4.heap.size by have := OU4.out.lt'; omega)
            have hne5 : gl5 ≠ go4 := by
              have := OU4.out.lt'
              rcases h5c with rfl | rfl
              · omega
              · simp; omega
            have F1 := Lib.hid h5a
            have F2 : Hid (Own w5 w1.heap.size go4 co4 (done ++ o1)) := ou5
            have F3 := Lib.hid bel5
            clear h5a h5b h5c ou5 bel5
            go_wp2_with fail
            go_roundg (gk - 1)
            case measure => have := HI.out; omega
            case rel => exact ⟨i + 1, _, cl5, gl5, _, co4, go4, at_ + q, (t ++ u).drop u1, done ++ o1, rest2, by have := HI.out; omega, by go_num, by go_num, rfl, rfl, by show _ = _; have := EL2.out; rw [List.length_append] at this; rw [List.length_drop, List.length_append], by show _ = _; rw [List.length_append], hne5, F1, F2, HST2, F3⟩
          · have HCU := Lib.hid hcu
            go_wp2_with (at_builtin; refine wpList_append_bytes_at rfl _ _ 22 rfl Tryd.underlying22 w1.heap.size w4.heap.size 0 [] ((t ++ u).drop u1) 0 _ rfl rfl (Own.empty w4 _ (by omega)) w4.heap.size _ _ rfl (by rw [List.length_drop, ← EL2.out]) (HLC.out _ (fun h => by simp)) (by rw [List.length_drop, ← EL2.out]; simp; omega) (by simp; omega) ?_; intro gl5 cl5 w5 h5a h5b h5c; refine Hid.out ?_)
            refine Lib.hid ?_
            rw [List.nil_append] at h5a
            have bel5 : Below w1.heap.size w1 w5 := (BEL4.out.alloc (by omega) _).grown h5b (by simp; omega) (fun j hj => by injection hj with hj; omega)
            have ou5 : Own w5 w1.heap.size go4 co4 (done ++ o1) := Own.grown (OU4.out.alloc (.cells #[] 5)) h5b (show go4 ≠ w4.heap.size by have := OU4.out.lt'; omega)
            have hne5 : gl5 ≠ go4 := by
              have := OU4.out.lt'
              rcases h5c with rfl | rfl
              · omega
              · simp; omega
            have F1 := Lib.hid h5a
            have F2 : Hid (Own w5 w1.heap.size go4 co4 (done ++ o1)) := ou5
            have F3 := Lib.hid bel5
            clear h5a h5b h5c ou5 bel5
            go_wp2_with fail
            go_roundg (gk - 1)
            case measure => have := HI.out; omega
            case rel => exact ⟨i + 1, _, cl5, gl5, _, co4, go4, at_ + q, (t ++ u).drop u1, done ++ o1, rest2, by have := HI.out; omega, by go_num, by go_num, rfl, rfl, by show _ = _; have := EL2.out; rw [List.length_append] at this; rw [List.length_drop, List.length_append], by show _ = _; rw [List.length_append], hne5, F1, F2, HST2, F3⟩
    · obtain rfl : i = m + 1 := by omega
      obtain ⟨ed, et⟩ := hst.out.fin rfl
      have el : ll = 0 := by rw [hll.out, et]; rfl
      subst el
      have elo : lo = n := by rw [hlo.out, ed, HN.out]
      have OWN : Hid (Own wr w1.heap.size go co bs0) := by rw [← ed]; exact houn.out
      have ELO := Lib.hid elo
      have t1 : decide ((((m + 1 : Nat)) : Int) ≤ (m : Int)) = false := by simp; omega
      clear ed et elo
      go_wp2_with fail
      refine (same_any (some ⟨go, 0, none⟩) A0 lo n co c0 bs0 bs0 wr.heap.size w.heap.size wr (by rw [ELO.out]; exact HN.out) HN.out OWN.out.rd ((rd0.below HB1.out).below ⟨hbel.out.os, hbel.out.tape, hbel.out.output, by omega, fun k hk => hbel.out.block k (by omega)⟩) (by have := HN.out; omega) (by have := HN.out; omega)).mono ?_
      rintro e w3 ⟨rfl, q, rfl⟩
      rw [show decide (bs0 = bs0) = true by simp]
      go_wp2_with fail
      go_ret
      exact ⟨rfl, below_drewN (HB1.out.trans (hbel.out.mono z1)) q⟩

end Go.Proofs.YtmddbfcghddacaaDoor

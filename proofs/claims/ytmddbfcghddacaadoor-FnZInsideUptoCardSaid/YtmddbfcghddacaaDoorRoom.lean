/-
  FnRoom: decoding a text into a small room of at least four bytes, again and again from where it has been used, is decoding it at once. Condition: the lengths' bounds.
-/
import Derived.Test.YtmddbfcghddacaaDoorImpD
import Derived.Test.YtmddbfcghddacaaDoorDecQ
import Derived.Test.YtmddbfcghddacaaDoorSame
import Derived.Outline
namespace Go.Proofs.YtmddbfcghddacaaDoor
open Go.RowKit
set_option linter.unusedVariables false

theorem Asc.room_step (R : Nat) (rest : List UInt8) (hR : 4 ≤ R) (hne : rest ≠ []) :
    ∃ out used rest2, Asc.dec R true (Asc.enc rest).length (Asc.enc rest) 0 0 0 0 [] = (out, used, none) ∧ rest = out ++ rest2 ∧ (Asc.enc rest).drop used = Asc.enc rest2 ∧ 1 ≤ used ∧ used ≤ (Asc.enc rest).length ∧ rest2.length < rest.length := by
  have hpos := List.length_pos_iff.2 hne
  by_cases h : 4 * (R / 4) < rest.length
  · refine ⟨rest.take (4 * (R / 4)), (Asc.enc (rest.take (4 * (R / 4)))).length, rest.drop (4 * (R / 4)), Asc.dec_room (R / 4) rest (by omega) (by omega) h, (List.take_append_drop _ _).symm, ?_, ?_, ?_, ?_⟩
    · rw [Asc.enc_split (R / 4) rest (by omega), List.drop_left]
    · exact Asc.enc_pos (by rw [List.length_take]; omega)
    · rw [Asc.enc_split (R / 4) rest (by omega), List.length_append]; omega
    · rw [List.length_drop]; omega
  · refine ⟨rest, (Asc.enc rest).length, [], by simpa using Asc.dec_all (room := R) (len := (Asc.enc rest).length) rest 0 0 [] (by simp; omega), by simp, ?_, Asc.enc_pos hpos, Nat.le_refl _, by simpa using hpos⟩
    rw [List.drop_eq_nil_of_le (Nat.le_refl _), Asc.enc_nil]

theorem Asc.room_any (R : Nat) (x : List UInt8) (hR : 4 ≤ R) : ∃ out used, Asc.dec R true (Asc.enc x).length (Asc.enc x) 0 0 0 0 [] = (out, used, none) := by
  by_cases h : x = []
  · subst h
    exact ⟨[], 0, by simp [Asc.enc, Asc.dec, Asc.fin]⟩
  · obtain ⟨out, used, _, hd, _⟩ := Asc.room_step R x hR h
    exact ⟨out, used, hd⟩
theorem roomN_ge (r n : Nat) (h : 4 ≤ r) (hn : n ≤ 1310725) : 4 ≤ roomN (r : Int) n ∧ roomN (r : Int) n ≤ 70368744177672 ∧ roomN (r : Int) n ≤ r := by
  unfold roomN
  rw [if_neg (by omega)]
  split <;> omega
theorem Own.below {w w' : World} {base g c : Nat} {bs : List UInt8} (h : Own w base g c bs) (hb : Below w.heap.size w w') : Own w' base g c bs := by
  refine ⟨h.1, ?_⟩
  rcases h.2 with ⟨e, h2⟩ | ⟨g', c', cur, e, hb', hh, hr⟩
  · exact .inl ⟨e, h2⟩
  · exact .inr ⟨g', c', cur, e, hb', (hb.block g' (Array.getElem?_eq_some_iff.1 hh).1).trans hh, hr⟩

theorem dec_field2 (a b c : Value) (w : World) : (Instr.field 26 (.agg #[a, b, c]) 2).run Tryd.prog w = .ok c w := by kernel_rfl

theorem below_drewN {B : Nat} {a w : World} (h : Below B a w) (n : Nat) : Below B a (w.drewN n) := ⟨h.os, h.tape, h.output, h.size, h.block⟩

set_option maxRecDepth 100000 in
set_option maxHeartbeats 4000000 in
theorem room_walk (A0 : Option Addr) (c0 : Nat) (bs0 : List UInt8) (a1 : Int) (w : World) (rd0 : Rd w w.heap.size A0 bs0) (lc0 : bs0.length ≤ c0) (lm0 : c0 ≤ 1048576) (h1 : -9223372036854775808 ≤ a1 ∧ a1 ≤ 9223372036854775807)
    (hlaid : w.cell? ⟨0, 0, none⟩ = some (.iface 61 (.agg #[.pointer (some ⟨1, 39, none⟩)]))) :
    Calls Tryd.prog 8 #[.slice A0 bs0.length c0, .int .i64 a1] w fun e w' => e = .returned (.bool true) ∧ Below w.heap.size w w' := by
  clear hlaid
  obtain ⟨n, hn⟩ : ∃ n, n = bs0.length := ⟨_, rfl⟩
  rw [← hn] at lc0
  rw [← hn]
  have HN := Lib.hid hn
  clear hn
  by_cases h4 : a1 < 4
  · go_enter Tryd.func8, Tryd.ntmps8
    go_wp2_with fail
    go_ret
    exact ⟨rfl, Below.refl _ _⟩
  obtain ⟨r, rfl⟩ : ∃ r : Nat, a1 = (r : Int) := ⟨a1.toNat, by omega⟩
  obtain ⟨T, hT⟩ : ∃ T, T = (Asc.enc bs0).length := ⟨_, rfl⟩
  have lT : T ≤ 1310725 := by have := Asc.enc_len bs0; have := HN.out; omega
  have hT0 : T = 0 ↔ n = 0 := by
    constructor
    · intro h
      rcases Nat.eq_zero_or_pos n with h0 | h0
      · exact h0
      · have := Asc.enc_pos (x := bs0) (by have := HN.out; omega); omega
    · intro h
      have e : bs0 = [] := List.eq_nil_of_length_eq_zero (by have := HN.out; omega)
      rw [hT, e]; rfl
  obtain ⟨b, eb1, eb2⟩ : ∃ b : Bool, ((n : Int) == 0) = b ∧ ((T : Int) == 0) = b := by
    by_cases h : n = 0
    · exact ⟨true, by rw [beq_iff_eq]; omega, by rw [beq_iff_eq]; have := hT0.2 h; omega⟩
    · exact ⟨false, beq_eq_false_iff_ne.2 (by omega), beq_eq_false_iff_ne.2 (by have : T ≠ 0 := fun e => h (hT0.1 e); omega)⟩
  have ebb : (b == b) = true := by simp
  have HT := Lib.hid hT
  have EB1 := Lib.hid eb1
  have EB2 := Lib.hid eb2
  clear hT eb1 eb2 hT0
  go_enter Tryd.func8, Tryd.ntmps8
  go_wp2_with fail
  refine (impl_encode A0 n c0 bs0 w HN.out rd0 (by have := HN.out; omega)).mono ?_
  rintro e w1 ⟨gt, dT, rfl, hd1, hd2, hg1, hg2, hrd, hb1⟩
  rw [← HT.out] at hd1 ⊢
  have z1 := hb1.size
  go_wp2_with (at_builtin; refine wpList_append_bytes rfl _ _ 22 rfl Tryd.underlying22 w1.heap.size w1.heap.size 0 [] (Asc.enc bs0) 0 T rfl rfl (Own.empty w1 _ (Nat.le_refl _)) w1.heap.size (some ⟨gt, 0, none⟩) dT rfl HT.out (hrd.alloc (Nat.le_refl _) _) (by have := HT.out; simp; omega) (by simp) ?_; intro gl cl wt hol hgl; refine Hid.out ?_)
  refine Lib.hid ?_
  rw [List.nil_append] at hol
  try rw [List.nil_append]
  try rw [← HT.out]
  have bwt : Below w1.heap.size w1 wt := ((Below.refl _ _).alloc (Nat.le_refl _) _).grown hgl (by simp) (by simp)
  have zt := bwt.size
  have rdt : Rd wt wt.heap.size (some ⟨gt, 0, none⟩) (Asc.enc bs0) := (hrd.below bwt).mono zt
  have rdl := hol.rd
  have hcl : T ≤ cl ∧ cl ≤ 9223372036854775807 := by
    rcases hol.2 with ⟨e, _⟩ | ⟨g', c', cur, e, _, _, h1, h2, _⟩
    · cases e
    · injection e with _ _ e3
      subst e3
      exact ⟨by rw [HT.out]; exact h1, h2⟩
  obtain ⟨hcl1, hcl2⟩ := hcl
  have BWT : Hid (Below w.heap.size w wt) := hb1.trans (bwt.mono z1)
  have RDT := Lib.hid rdt
  have RDL := Lib.hid rdl
  clear hol hgl hrd bwt rdt rdl hb1
  go_wp2_with fail
  go_loopg [6, 7, 8] n (fun gk lv ov ix wr => ∃ (i n' c' go lo co : Nat) (A' : Option Addr) (rest done : List UInt8), gk = rest.length ∧ ix = .int .i64 (i : Int) ∧ i + gk ≤ n ∧ lv = .slice A' n' c' ∧ n' ≤ c' ∧ c' ≤ 9223372036854775807 ∧ n' ≤ 1310725 ∧ Hid (n' = (Asc.enc rest).length) ∧ Hid (Rd wt wt.heap.size A' (Asc.enc rest)) ∧
    ov = .slice (some ⟨go, 0, none⟩) lo co ∧ Hid (lo = done.length) ∧ Hid (Own wr wt.heap.size go co done) ∧ Hid (done ++ rest = bs0) ∧ Hid (Below wt.heap.size wt wr))
  case atStart => exact ⟨0, T, cl, wt.heap.size, 0, 0, some ⟨gl, 0, none⟩, bs0, [], HN.out, rfl, by omega, rfl, hcl1, hcl2, lT, HT, RDL, rfl, rfl, Own.empty wt _ (Nat.le_refl _), rfl, (Below.refl _ _).alloc (Nat.le_refl _) _⟩
  case round =>
    obtain ⟨i, n', c', go, lo, co, A', rest, done, hgk, rfl, hi, rfl, hnc, hcm, hnl, hn', hrl, rfl, hlo, hown, hdr, hbel⟩ := hrel
    have HGK := Lib.hid hgk
    have zr := hbel.out.size
    have t1 : decide ((i : Int) ≤ (n : Int)) = true := by simp; omega
    have t1' : (i : Int) ≤ (n : Int) := by omega
    have ldone : done.length ≤ n := by have := HN.out; rw [← hdr.out, List.length_append] at this; omega
    clear hgk
    by_cases hre : rest = []
    · have en : n' = 0 := by rw [hn'.out, hre]; rfl
      subst en
      have ed : done = bs0 := by have := hdr.out; rw [hre, List.append_nil] at this; exact this
      have elo : lo = n := by rw [hlo.out, ed, HN.out]
      have OWN : Hid (Own wr wt.heap.size go co bs0) := by rw [← ed]; exact hown.out
      have ELO := Lib.hid elo
      clear ed elo ldone hre
      go_wp2_with fail
      refine (same_any (some ⟨go, 0, none⟩) A0 lo n co c0 bs0 bs0 wr.heap.size w.heap.size wr (by rw [ELO.out]; exact HN.out) HN.out OWN.out.rd ((rd0.below BWT.out).below ⟨hbel.out.os, hbel.out.tape, hbel.out.output, by have := BWT.out.size; omega, fun k hk => hbel.out.block k (by have := BWT.out.size; omega)⟩) (by have := HN.out; omega) (by have := HN.out; omega)).mono ?_
      rintro e w3 ⟨rfl, q, rfl⟩
      rw [show decide (bs0 = bs0) = true by simp]
      obtain ⟨o1, u1, hd⟩ := Asc.room_any (roomN (r : Int) T) bs0 (roomN_ge r T (by omega) lT).1
      have HD := Lib.hid hd
      have eb1 := EB1.out
      have eb2 := EB2.out
      clear hd
      go_wp2_with fail
      refine (impl_decode (some ⟨gt, 0, none⟩) T dT (Asc.enc bs0) true (r : Int) (wr.drewN q) HT.out (((RDT.out.below hbel.out).drewN q).mono zr) (by omega) (roomN_ge r T (by omega) lT).2.1 h1 o1 u1 HD.out).mono ?_
      rintro e w4 ⟨g4, rfl, _, _, _, _, hb4⟩
      have bfin : Below w.heap.size w w4 := (BWT.out.trans (hbel.out.mono BWT.out.size)).trans ((below_drewN (Below.refl wr.heap.size wr) q).trans hb4 |>.mono (by have := BWT.out.size; omega))
      obtain ⟨R, eR⟩ : ∃ R, R = roomN (r : Int) T := ⟨_, rfl⟩
      obtain ⟨l1, el⟩ : ∃ l, l = o1.length := ⟨_, rfl⟩
      rw [← eR, ← el]
      have hf2 := fun a b c w => dec_field2 a b c w
      clear eR el hb4
      go_wp2_with fail
      go_ret
      exact ⟨rfl, bfin⟩
    · obtain ⟨hR4, hRm, hRr⟩ := roomN_ge r n' (by omega) hnl
      obtain ⟨o1, u1, rest2, hd, hsp, hdrop, hu1, hu2, hless⟩ := Asc.room_step (roomN (r : Int) n') rest hR4 hre
      have hpos : 0 < n' := by rw [hn'.out]; exact Asc.enc_pos (List.length_pos_iff.2 hre)
      obtain ⟨gb, off, rfl, hgb⟩ : ∃ gb off, A' = some ⟨gb, off, none⟩ ∧ gb < wt.heap.size := by
        rcases hrl.out with e | ⟨b, off, e, hb, _⟩
        · rw [e] at hn'; have := hn'.out; simp at this; omega
        · exact ⟨b, off, e, hb⟩
      have hu2' : u1 ≤ n' := by rw [hn'.out]; exact hu2
      have HD := Lib.hid hd
      have HSP := Lib.hid hsp
      have HDROP := Lib.hid hdrop
      have HLESS := Lib.hid hless
      have lo1b : o1.length ≤ n := by have := HN.out; rw [← hdr.out, List.length_append, hsp, List.length_append] at this; omega
      have ldo : done.length + o1.length ≤ n := by have := HN.out; rw [← hdr.out, List.length_append, hsp, List.length_append] at this; omega
      have t2 : decide ((0 : Int) < (n' : Int)) = true := by simp; omega
      clear hd hsp hdrop hless hu2 hre
      go_wp2_with fail
      refine (impl_decode (some ⟨gb, off, none⟩) n' c' (Asc.enc rest) true (r : Int) wr hn'.out ((hrl.out.below hbel.out).mono zr) (by omega) hRm h1 o1 u1 HD.out).mono ?_
      rintro e w2 ⟨g2, rfl, hu, hol, hge, hrd2, hb2⟩
      obtain ⟨R, eR⟩ : ∃ R, R = roomN (r : Int) n' := ⟨_, rfl⟩
      rw [← eR] at hol hRr hRm hR4 ⊢
      obtain ⟨lo1, el⟩ : ∃ l, l = o1.length := ⟨_, rfl⟩
      rw [← el] at hol lo1b ⊢
      have EL := Lib.hid el
      have z2 := hb2.size
      have hgo := hown.out.lt'
      have own2 : Own (w2.alloc (.cells #[.slice (some ⟨g2, 0, none⟩) lo1 R, .int .i64 (u1 : Int), .int .i64 (-1)] 26)) wt.heap.size go co done := (hown.out.below hb2).alloc _
      have rd2 : Rd (w2.alloc (.cells #[.slice (some ⟨g2, 0, none⟩) lo1 R, .int .i64 (u1 : Int), .int .i64 (-1)] 26)) w2.heap.size (some ⟨g2, 0, none⟩) o1 := hrd2.alloc (Nat.le_refl _) _
      have OWN2 := Lib.hid own2
      have RD2 := Lib.hid rd2
      have t3 : decide ((u1 : Int) < 1) = false := by simp; omega
      have t4 : decide ((n' : Int) < (u1 : Int)) = false := by simp; omega
      have t5 : decide ((r : Int) < (lo1 : Int)) = false := by simp; omega
      clear eR el own2 rd2 hrd2
      go_wp2_with (at_builtin; refine wpList_append_bytes rfl _ _ 22 rfl Tryd.underlying22 wt.heap.size go co done o1 lo lo1 rfl hlo.out OWN2.out w2.heap.size (some ⟨g2, 0, none⟩) R rfl EL.out RD2.out (by omega) (by simp; omega) ?_; intro go' co' w3 h1' h2'; refine Hid.out ?_)
      refine Lib.hid ?_
      have bel3 : Below wt.heap.size wt w3 := ((hbel.out.trans (hb2.mono zr)).alloc (by omega) _).grown h2' (by simp; omega) (fun j hj => by injection hj with hj; subst hj; exact hgo.1)
      have hblk : w3.heap[w2.heap.size]? = some (.cells #[.slice (some ⟨g2, 0, none⟩) lo1 R, .int .i64 (u1 : Int), .int .i64 (-1)] 26 (0, 0)) := (h2'.block w2.heap.size (by simp) (fun e => by injection e with e; omega)).trans (heap_alloc_new w2 _)
      have cu : w3.cell? ⟨w2.heap.size, 1, none⟩ = some (.int .i64 (u1 : Int)) := by rw [cell_of_row w3 _ 1 _ _ _ hblk]; rfl
      have OWN3 := Lib.hid h1'
      have BEL3 := Lib.hid bel3
      have hrl2 : ∀ A2, (u1 < n' → A2 = some ⟨gb, off + u1, none⟩) → Rd wt wt.heap.size A2 (Asc.enc rest2) := fun A2 hA2 => by
        have := hrl.out.cut (A' := A2) (k := u1) (fun b o e hlt => by
          injection e with e
          injection e with e1 e2
          subst e1 e2
          exact hA2 (by rw [hn'.out]; exact hlt))
        rw [HDROP.out] at this
        exact this
      have HRL2 := Lib.hid hrl2
      have hn2 : n' - u1 = (Asc.enc rest2).length := by rw [← HDROP.out, List.length_drop, ← hn'.out]
      have HN2 := Lib.hid hn2
      have hdr2 : done ++ o1 ++ rest2 = bs0 := by rw [List.append_assoc, ← HSP.out]; exact hdr.out
      have HDR2 := Lib.hid hdr2
      clear hblk h1' h2' bel3 hrl2 hn2 hdr2 OWN2 RD2
      by_cases hcu : c' = u1
      · have t6 : (u1 : Int) ≤ (n' : Int) := by omega
        go_wp2_with fail
        go_roundg rest2.length
        case measure => have := HGK.out; have := HLESS.out; omega
        case rel => exact ⟨i + 1, _, _, go', _, co', _, rest2, done ++ o1, rfl, by go_num, by have := HGK.out; have := HLESS.out; omega, rfl, by omega, by omega, by omega, HN2, HRL2.out _ (fun h => by omega), rfl, by show _ = _; rw [List.length_append], OWN3, HDR2, BEL3⟩
      · have t6 : (u1 : Int) ≤ (n' : Int) := by omega
        go_wp2_with fail
        go_roundg rest2.length
        case measure => have := HGK.out; have := HLESS.out; omega
        case rel => exact ⟨i + 1, _, _, go', _, co', _, rest2, done ++ o1, rfl, by go_num, by have := HGK.out; have := HLESS.out; omega, rfl, by omega, by omega, by omega, HN2, HRL2.out _ (fun h => rfl), rfl, by show _ = _; rw [List.length_append], OWN3, HDR2, BEL3⟩

end Go.Proofs.YtmddbfcghddacaaDoor

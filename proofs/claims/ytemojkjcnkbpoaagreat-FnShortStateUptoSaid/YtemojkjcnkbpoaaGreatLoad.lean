/-
  impl.LoadState at any kind of hash and bytes that are no state of it. Condition: at most 2 * 10^14 bytes.
-/
import Derived.Test.YtemojkjcnkbpoaaGreatHk
import Derived.Test.YtemojkjcnkbpoaaGreatSt
import Derived.Test.YtemojkjcnkbpoaaGreatUkA
import Derived.Test.YtemojkjcnkbpoaaGreatDg
namespace Go.Proofs.YtemojkjcnkbpoaaGreat
open Go.RowKit
set_option linter.unusedVariables false

theorem Own.keep {w w' : World} {base g c : Nat} {bs : List UInt8} (h : Own w base g c bs) (hk : w'.heap[g]? = w.heap[g]?) : Own w' base g c bs := by
  refine ⟨h.1, ?_⟩
  rcases h.2 with ⟨e, h2⟩ | ⟨g', c', cur, e, hb', hh, hr⟩
  · exact .inl ⟨e, h2⟩
  · injection e with e1 e2 e3
    injection e1 with e1
    injection e1 with e1
    subst e1
    exact .inr ⟨g, c', cur, by rw [e3], hb', hk.trans hh, hr⟩
theorem Own.base {w : World} {base base' g c : Nat} {bs : List UInt8} (h : Own w base g c bs) (hb : base' ≤ base) : Own w base' g c bs := by
  refine ⟨h.1, ?_⟩
  rcases h.2 with ⟨e, h2⟩ | ⟨g', c', cur, e, hb', hh, hr⟩
  · exact .inl ⟨e, h2⟩
  · exact .inr ⟨g', c', cur, e, by omega, hh, hr⟩

def ld0 : Array Value := #[.bool false, .slice none 0 0, .slice none 0 0, .slice none 0 0]

/-- between the statements of LoadState: the hash, the result's block, the frame -/
structure LD (w wc : World) (hb r8 : Nat) (St : World → Nat → List UInt8 → Prop) (bs : List UInt8) : Prop where
  st : St wc hb bs
  bel : Below w.heap.size w wc
  lt : hb < wc.heap.size
  r8 : wc.heap[r8]? = some (.cells ld0 29 (0, 0))

/-- likewise, with the struct that is filled, and rows of sums -/
structure LE (w wc : World) (hb r8 go : Nat) (St : World → Nat → List UInt8 → Prop) (bs : List UInt8) (cs : Array Value) (rows : List (Nat × Nat × List UInt8)) : Prop where
  ld : LD w wc hb r8 St bs
  out : wc.heap[go]? = some (.cells cs 29 (0, 0))
  ne : go ≠ hb ∧ go ≠ r8 ∧ hb ≠ r8 ∧ w.heap.size ≤ hb ∧ w.heap.size ≤ go ∧ w.heap.size ≤ r8
  own : ∀ x ∈ rows, Own wc w.heap.size x.1 x.2.1 x.2.2 ∧ x.1 ≠ hb ∧ x.1 ≠ go ∧ x.1 ≠ r8

section
variable {w wc : World} {hb r8 go : Nat} {St : World → Nat → List UInt8 → Prop} {bs : List UInt8} {cs : Array Value} {rows : List (Nat × Nat × List UInt8)}
theorem LE.gl (h : LE w wc hb r8 go St bs cs rows) : go < wc.heap.size := (Array.getElem?_eq_some_iff.1 h.out).1
theorem LE.rl (h : LE w wc hb r8 go St bs cs rows) : r8 < wc.heap.size := (Array.getElem?_eq_some_iff.1 h.ld.r8).1
theorem LE.cell (h : LE w wc hb r8 go St bs cs rows) (i : Nat) : wc.cell? ⟨go, i, none⟩ = cs[i]? := cell_of_row _ _ _ _ _ _ h.out
theorem LE.fz (h : LE w wc hb r8 go St bs cs rows) (i : Nat) : wc.frozen? ⟨go, i, none⟩ = false := frozen_of_row _ _ _ _ _ h.out
theorem LE.below {w' : World} (hkeep : ∀ {w w' : World} {h : Nat} {bs : List UInt8}, St w h bs → w'.heap[h]? = w.heap[h]? → St w' h bs) (h : LE w wc hb r8 go St bs cs rows) (b : Below wc.heap.size wc w') : LE w w' hb r8 go St bs cs rows := by
  have z := h.ld.bel.size
  have zb := b.size
  refine ⟨⟨hkeep h.ld.st (b.block hb h.ld.lt), h.ld.bel.trans (b.mono z), Nat.lt_of_lt_of_le h.ld.lt zb, (b.block r8 h.rl).trans h.ld.r8⟩, (b.block go h.gl).trans h.out, h.ne, fun x hx => ?_⟩
  obtain ⟨o1, o2⟩ := h.own x hx
  exact ⟨o1.keep (b.block _ o1.lt'.2), o2⟩
theorem LE.store (hkeep : ∀ {w w' : World} {h : Nat} {bs : List UInt8}, St w h bs → w'.heap[h]? = w.heap[h]? → St w' h bs) (h : LE w wc hb r8 go St bs cs rows) (i : Nat) (v : Value) : LE w (wc.setCell ⟨go, i, none⟩ v) hb r8 go St bs (cs.setIfInBounds i v) rows := by
  have ho : ∀ k, k ≠ go → (wc.setCell ⟨go, i, none⟩ v).heap[k]? = wc.heap[k]? := fun k hk => Below.heap_setCell _ _ _ _ hk
  have hz : (wc.setCell ⟨go, i, none⟩ v).heap.size = wc.heap.size := by simp [World.setCell]
  obtain ⟨n1, n2, n3, n4, n5, n6⟩ := h.ne
  refine ⟨⟨hkeep h.ld.st (ho hb n1.symm), ?_, by rw [hz]; exact h.ld.lt, (ho r8 n2.symm).trans h.ld.r8⟩, ?_, h.ne, fun x hx => ?_⟩
  · exact ⟨h.ld.bel.os, h.ld.bel.tape, h.ld.bel.output, by rw [hz]; exact h.ld.bel.size, fun k hk => (ho k (by omega)).trans (h.ld.bel.block k hk)⟩
  · simp [World.setCell, Array.getElem?_modify, h.out]
  · obtain ⟨o1, o2⟩ := h.own x hx
    exact ⟨o1.keep (ho _ o2.2.1), o2⟩
theorem LE.write {w' : World} {bs' : List UInt8} (h : LE w wc hb r8 go St bs cs rows) (hst : St w' hb bs') (g : wc.grownBy w' (some hb)) : LE w w' hb r8 go St bs' cs rows := by
  obtain ⟨n1, n2, n3, n4, n5, n6⟩ := h.ne
  have hg : ∀ k, k < wc.heap.size → k ≠ hb → w'.heap[k]? = wc.heap[k]? := fun k hk hne => g.block k hk (fun e => hne (by injection e))
  refine ⟨⟨hst, h.ld.bel.grown g h.ld.bel.size (fun k hk => by injection hk with hk; omega), Nat.lt_of_lt_of_le h.ld.lt g.size, (hg r8 h.rl n3.symm).trans h.ld.r8⟩, (hg go h.gl n1).trans h.out, h.ne, fun x hx => ?_⟩
  obtain ⟨o1, o2⟩ := h.own x hx
  exact ⟨o1.keep (hg _ o1.lt'.2 o2.1), o2⟩
theorem LE.row {g d : Nat} {b : List UInt8} {B : Nat} (h : LE w wc hb r8 go St bs cs rows) (o : Own wc B g d b) (hB : w.heap.size ≤ B) (h1 : hb < B) (h2 : go < B) (h3 : r8 < B) : LE w wc hb r8 go St bs cs ((g, d, b) :: rows) := by
  have := o.lt'.1
  refine ⟨h.ld, h.out, h.ne, fun x hx => ?_⟩
  rcases List.mem_cons.1 hx with rfl | hx
  · exact ⟨o.base hB, by show g ≠ hb; omega, by show g ≠ go; omega, by show g ≠ r8; omega⟩
  · exact h.own x hx
end

set_option maxRecDepth 100000 in
set_option maxHeartbeats 4000000 in
theorem loadState_hk {kind : Int} {tw : TypeId} {fW fS fM fU : FuncId} {St : World → Nat → List UInt8 → Prop} {sum state : List UInt8 → List UInt8} {Bad : List UInt8 → Prop} (K : HK Tryz.prog 17 kind tw fW fS St sum) (M : MK Tryz.prog tw fM St state) (U : UK Tryz.prog tw fU St Bad)
    (A1 : Option Addr) (n1 c1 : Nat) (bs1 : List UInt8) (A2 : Option Addr) (n2 c2 : Nat) (bs2 : List UInt8) (A3 : Option Addr) (n3 c3 : Nat) (bs3 : List UInt8) (w : World) (hn1 : n1 = bs1.length) (r1 : Rd w w.heap.size A1 bs1) (l1 : bs1.length ≤ 200000000000000) (hn2 : n2 = bs2.length) (r2 : Rd w w.heap.size A2 bs2) (l2 : bs2.length ≤ 200000000000000) (hn3 : n3 = bs3.length) (r3 : Rd w w.heap.size A3 bs3) (l3 : bs3.length ≤ 200000000000000) (hbad : Bad bs2) (L : Nat) (hL : ∀ bs, (sum bs).length = L) :
    Calls Tryz.prog 13 #[.int .i64 kind, .slice A1 n1 c1, .slice A2 n2 c2, .slice A3 n3 c3] w fun e w' => ∃ g1 d1 g2 d2 g3 d3, e = .returned (.agg #[.bool true, .slice (some ⟨g1, 0, none⟩) L d1, .slice (some ⟨g2, 0, none⟩) L d2, .slice (some ⟨g3, 0, none⟩) L d3]) ∧
      Own w' w.heap.size g1 d1 (sum bs1) ∧ Own w' w.heap.size g2 d2 (sum bs1) ∧ Own w' w.heap.size g3 d3 (sum (bs1 ++ bs3)) ∧ Below w.heap.size w w' := by
  have HN1 := Lib.hid hn1
  have HN2 := Lib.hid hn2
  have HN3 := Lib.hid hn3
  have R1 := Lib.hid r1
  have R2 := Lib.hid r2
  have R3 := Lib.hid r3
  have HL := Lib.hid hL
  clear hn1 hn2 hn3 r1 r2 r3 hL
  have n1w := K.nW
  have n2w := K.mW
  have n3s := K.mS
  have n4s := K.nS
  have n5w := K.eW
  have n6s := K.eS
  have n7 := M.ta
  have n8 := U.nU
  have n9 := U.mU
  have n10 := U.eU
  go_enter Tryz.func13, Tryz.ntmps13
  go_wp2_with fail
  obtain ⟨W0, hW0⟩ : ∃ W0, w.alloc (.cells #[.bool false, .slice none 0 0, .slice none 0 0, .slice none 0 0] 29) = W0 := ⟨_, rfl⟩
  obtain ⟨r8, hr8⟩ : ∃ r8, r8 = w.heap.size := ⟨_, rfl⟩
  have z0 : W0.heap.size = w.heap.size + 1 := by subst hW0; simp
  have b0 : Below w.heap.size w W0 := by subst hW0; exact (Below.refl _ _).alloc (Nat.le_refl _) _
  have k0 : W0.heap[r8]? = some (.cells ld0 29 (0, 0)) := by subst hW0 hr8; exact heap_alloc_new w _
  rw [hW0, ← hr8]
  have HR8 := Lib.hid hr8
  have hr8l : r8 < W0.heap.size := by omega
  clear hW0 hr8
  refine (K.new W0).mono ?_
  rintro e w1 ⟨hb, rfl, hst, hge, hlt, hb1⟩
  have hbr : r8 < hb := by omega
  have hwb : w.heap.size < hb := by omega
  have k1 : w1.heap[r8]? = some (.cells ld0 29 (0, 0)) := (hb1.block r8 hr8l).trans k0
  have bw1 : Below w.heap.size w w1 := b0.trans (hb1.mono b0.size)
  have LD1 := Lib.hid (LD.mk (w := w) hst bw1 hlt k1)
  clear hst hb1 b0 k0 k1
  have cOwn : ∀ (wx : World) (A : Option Addr) (n c : Nat) (bs : List UInt8), n = bs.length → Rd wx wx.heap.size A bs → bs.length ≤ 200000000000000 → Calls Tryz.prog 18 #[.slice A n c] wx.drew fun e w' => ∃ g d, e = .returned (.slice (some ⟨g, 0, none⟩) n d) ∧ Own w' wx.heap.size g d bs ∧ Below wx.heap.size wx w' := fun wx A n c bs hn h hl =>
    (own_any A n c bs wx.drew hn h hl).mono fun e w' ⟨g, d, e1, e2, e3⟩ => ⟨g, d, by rw [hn]; exact e1, e2, e3.os, e3.tape, e3.output, e3.size, e3.block⟩
  have cWr : ∀ (wx : World) (pre bs : List UInt8), LD w wx hb r8 St pre → ∀ n g2 d2 w2, n = bs.length → Own w2 wx.heap.size g2 d2 bs → Below wx.heap.size wx w2 → Calls Tryz.prog fW #[.pointer (some ⟨hb, 0, none⟩), .slice (some ⟨g2, 0, none⟩) n d2] w2 fun e w' => e = .returned (.tuple #[.int .i64 (n : Int), .nilIface]) ∧
      Hid (LD w w' hb r8 St (pre ++ bs)) := by
    intro wx pre bs hld n g2 d2 w2 hn hown hb2
    have hcap := hown.caps
    have hg2 := hown.lt'
    have hlx := hld.lt
    refine (K.write hb (some ⟨g2, 0, none⟩) n d2 pre bs w2 (K.keep hld.st (hb2.block hb hlx)) hn (hown.src (by omega)) (by omega) hcap.2).mono ?_
    rintro e w' ⟨rfl, h1, h2⟩
    have hsz := hb2.size
    have hsx := hld.bel.size
    refine ⟨rfl, h1, ?_, by have := h2.size; omega, ?_⟩
    · exact (hld.bel.trans (hb2.mono hsx)).grown h2 (by omega) (fun k hk => by injection hk with hk; omega)
    · exact ((h2.block r8 (by omega) (fun e => by injection e with e; omega)).trans (hb2.block r8 (by omega))).trans hld.r8
  have CW1 := Lib.hid (cWr w1 [] bs1 LD1.out)
  have CO1 := Lib.hid (cOwn w1 A1 n1 c1 bs1 HN1.out ((R1.out.below bw1).mono bw1.size) l1)
  have COWN := Lib.hid cOwn
  have CWR := Lib.hid cWr
  clear cOwn cWr bw1
  go_upto_region 4 with (fail)
  go_cut [] (fun wc => Hid (LD w wc hb r8 St bs1))
  case first =>
    go_region_with (first | (go_at_call 18; refine CO1.out.mono ?_; rintro e w2 ⟨g2, d2, rfl, hown, hb2⟩) | ((with_reducible refine (CW1.out _ _ _ _ HN1.out (by assumption) (by assumption)).mono ?_); rintro e w3 ⟨rfl, hw3⟩))
    all_goals (go_wp2_with fail; go_meet; exact hw3)
  case rest =>
    clear CW1 CO1 LD1
    have h1 := K.sum hb bs1 _ hcut.out.st
    have q := hcut.out.bel
    have HC := Lib.hid h1
    clear h1
    go_wp2_with fail
    refine HC.out.mono ?_
    rintro e w4 ⟨g1, d1, rfl, o1, b1⟩
    rw [HL.out]
    have HB1 := Lib.hid b1
    have HO1 := Lib.hid o1
    have hrc : r8 < wc.heap.size := by have := hcut.out.r8; exact (Array.getElem?_eq_some_iff.1 this).1
    have hbc := hcut.out.lt
    clear HC b1 o1
    go_wp2_with fail
    obtain ⟨go, hgo⟩ : ∃ go, go = w4.heap.size := ⟨_, rfl⟩
    obtain ⟨W5, hW5⟩ : ∃ W5, w4.alloc (.cells #[.bool false, .slice (some ⟨g1, 0, none⟩) L d1, .slice none 0 0, .slice none 0 0] 29) = W5 := ⟨_, rfl⟩
    have E5 : LE w W5 hb r8 go St bs1 #[.bool false, .slice (some ⟨g1, 0, none⟩) L d1, .slice none 0 0, .slice none 0 0] [(g1, d1, sum bs1)] := by
      have z1 := HB1.out.size
      have z2 := hcut.out.bel.size
      have hg := HO1.out.lt'
      have bb : Below wc.heap.size wc W5 := by subst hW5; exact HB1.out.alloc z1 _
      refine ⟨⟨K.keep hcut.out.st (bb.block hb hbc), hcut.out.bel.trans (bb.mono z2), Nat.lt_of_lt_of_le hbc bb.size, (bb.block r8 hrc).trans hcut.out.r8⟩, ?_, ⟨by omega, by omega, by omega, by omega, by omega, by have := HR8.out; omega⟩, fun x hx => ?_⟩
      · subst hW5 hgo; exact heap_alloc_new w4 _
      · obtain rfl := List.mem_singleton.1 hx
        refine ⟨?_, by show g1 ≠ hb; omega, by show g1 ≠ go; omega, by show g1 ≠ r8; omega⟩
        subst hW5
        exact (HO1.out.base z2).alloc _
    rw [hW5, ← hgo]
    have HE5 := Lib.hid E5
    clear E5 HB1 HO1 hgo hW5 q hcut
    have CO2 := Lib.hid (COWN.out W5 A2 n2 c2 bs2 HN2.out ((R2.out.below HE5.out.ld.bel).mono HE5.out.ld.bel.size) l2)
    have CU : Hid (∀ g2 d2 w2, Own w2 W5.heap.size g2 d2 bs2 → Below W5.heap.size W5 w2 → Calls Tryz.prog fU #[.pointer (some ⟨hb, 0, none⟩), .slice (some ⟨g2, 0, none⟩) n2 d2] w2 fun e w' => ∃ v, e = .returned (.iface 122 v) ∧ w'.cell? ⟨go, 0, none⟩ = some (.bool false) ∧ w'.frozen? ⟨go, 0, none⟩ = false ∧
        Hid (LE w w' hb r8 go St bs1 #[.bool false, .slice (some ⟨g1, 0, none⟩) L d1, .slice none 0 0, .slice none 0 0] [(g1, d1, sum bs1)])) := fun g2 d2 w2 hown hb2 => by
      have E6 := HE5.out.below (@K.keep) hb2
      have hcap := hown.caps
      refine (U.unm hb bs1 (some ⟨g2, 0, none⟩) n2 d2 bs2 w2 E6.ld.st HN2.out hown.rd (by have := HN2.out; omega) hcap.2 hbad).mono ?_
      rintro e w' ⟨v, h1, h2⟩
      have E7 := E6.below (@K.keep) h2
      exact ⟨v, h1, E7.cell 0, E7.fz 0, E7⟩
    go_upto_region 6 with (fail)
    go_cut [] (fun wc => Hid (LE w wc hb r8 go St bs1 #[.bool true, .slice (some ⟨g1, 0, none⟩) L d1, .slice none 0 0, .slice none 0 0] [(g1, d1, sum bs1)]))
    case first =>
      go_region_with (first | (go_at_call 18; refine CO2.out.mono ?_; rintro e w2 ⟨g2, d2, rfl, hown, hb2⟩) | ((with_reducible refine (CU.out _ _ _ (by assumption) (by assumption)).mono ?_); rintro e w3 ⟨v, rfl, hc0, hf0, hw3⟩))
      all_goals (go_wp2_with fail; go_meet; exact hw3.out.store (@K.keep) 0 (.bool true))
    case rest =>
      clear CU CO2 HE5
      have hec := hcut.out
      have HC := Lib.hid (K.sum hb bs1 _ hec.ld.st)
      clear hec
      go_wp2_with fail
      refine HC.out.mono ?_
      rintro e w6 ⟨g2, d2, rfl, o2, b2⟩
      rw [HL.out]
      have E6 : LE w w6 hb r8 go St bs1 #[.bool true, .slice (some ⟨g1, 0, none⟩) L d1, .slice none 0 0, .slice none 0 0] [(g2, d2, sum bs1), (g1, d1, sum bs1)] :=
        (hcut.out.below (@K.keep) b2).row o2 hcut.out.ld.bel.size hcut.out.ld.lt hcut.out.gl hcut.out.rl
      have p2 : w6.cell? ⟨go, 2, none⟩ = some (.slice none 0 0) := E6.cell 2
      have f2 := E6.fz 2
      have HE6 := Lib.hid E6
      clear E6 o2 b2 HC hcut
      go_wp2_with fail
      obtain ⟨W7, hW7⟩ : ∃ W7, w6.setCell ⟨go, 2, none⟩ (.slice (some ⟨g2, 0, none⟩) L d2) = W7 := ⟨_, rfl⟩
      have E7 : LE w W7 hb r8 go St bs1 #[.bool true, .slice (some ⟨g1, 0, none⟩) L d1, .slice (some ⟨g2, 0, none⟩) L d2, .slice none 0 0] [(g2, d2, sum bs1), (g1, d1, sum bs1)] := by
        subst hW7
        exact HE6.out.store (@K.keep) 2 _
      rw [hW7]
      have HE7 := Lib.hid E7
      clear E7 HE6 hW7 p2 f2
      have CO3 := Lib.hid (COWN.out W7 A3 n3 c3 bs3 HN3.out ((R3.out.below HE7.out.ld.bel).mono HE7.out.ld.bel.size) l3)
      have CW3 : Hid (∀ g3 d3 w2, Own w2 W7.heap.size g3 d3 bs3 → Below W7.heap.size W7 w2 → Calls Tryz.prog fW #[.pointer (some ⟨hb, 0, none⟩), .slice (some ⟨g3, 0, none⟩) n3 d3] w2 fun e w' => e = .returned (.tuple #[.int .i64 (n3 : Int), .nilIface]) ∧
          Hid (LE w w' hb r8 go St (bs1 ++ bs3) #[.bool true, .slice (some ⟨g1, 0, none⟩) L d1, .slice (some ⟨g2, 0, none⟩) L d2, .slice none 0 0] [(g2, d2, sum bs1), (g1, d1, sum bs1)])) := fun g3 d3 w2 hown hb2 => by
        have E8 := HE7.out.below (@K.keep) hb2
        have hcap := hown.caps
        have hg := hown.lt'
        refine (K.write hb (some ⟨g3, 0, none⟩) n3 d3 bs1 bs3 w2 E8.ld.st HN3.out (hown.src (by have := HE7.out.ld.lt; omega)) (by have := HN3.out; omega) hcap.2).mono ?_
        rintro e w' ⟨rfl, h1, h2⟩
        exact ⟨rfl, E8.write h1 h2⟩
      go_upto_region 8 with (fail)
      go_cut [] (fun wc => Hid (LE w wc hb r8 go St (bs1 ++ bs3) #[.bool true, .slice (some ⟨g1, 0, none⟩) L d1, .slice (some ⟨g2, 0, none⟩) L d2, .slice none 0 0] [(g2, d2, sum bs1), (g1, d1, sum bs1)]))
      case first =>
        go_region_with (first | (go_at_call 18; refine CO3.out.mono ?_; rintro e w2 ⟨g3, d3, rfl, hown, hb2⟩) | ((with_reducible refine (CW3.out _ _ _ (by assumption) (by assumption)).mono ?_); rintro e w3 ⟨rfl, hw3⟩))
        all_goals (go_wp2_with fail; go_meet; exact hw3)
      case rest =>
        clear CW3 CO3 HE7
        have hec := hcut.out
        have HC := Lib.hid (K.sum hb (bs1 ++ bs3) _ hec.ld.st)
        clear hec
        go_wp2_with fail
        refine HC.out.mono ?_
        rintro e w9 ⟨g3, d3, rfl, o3, b3⟩
        rw [HL.out]
        have E9 : LE w w9 hb r8 go St (bs1 ++ bs3) #[.bool true, .slice (some ⟨g1, 0, none⟩) L d1, .slice (some ⟨g2, 0, none⟩) L d2, .slice none 0 0] [(g3, d3, sum (bs1 ++ bs3)), (g2, d2, sum bs1), (g1, d1, sum bs1)] :=
          (hcut.out.below (@K.keep) b3).row o3 hcut.out.ld.bel.size hcut.out.ld.lt hcut.out.gl hcut.out.rl
        have p3 : w9.cell? ⟨go, 3, none⟩ = some (.slice none 0 0) := E9.cell 3
        have f3 := E9.fz 3
        have HE9 := Lib.hid E9
        clear E9 o3 b3 HC hcut
        go_upto_region 10 with (fail)
        obtain ⟨W9, hW9⟩ : ∃ W9, w9.setCell ⟨go, 3, none⟩ (.slice (some ⟨g3, 0, none⟩) L d3) = W9 := ⟨_, rfl⟩
        rw [hW9]
        have E10 : LE w W9 hb r8 go St (bs1 ++ bs3) #[.bool true, .slice (some ⟨g1, 0, none⟩) L d1, .slice (some ⟨g2, 0, none⟩) L d2, .slice (some ⟨g3, 0, none⟩) L d3] [(g3, d3, sum (bs1 ++ bs3)), (g2, d2, sum bs1), (g1, d1, sum bs1)] := by
          subst hW9
          exact HE9.out.store (@K.keep) 3 _
        have q0 : W9.cell? ⟨go, 0, none⟩ = some (.bool true) := E10.cell 0
        have q1 : W9.cell? ⟨go, 1, none⟩ = some (.slice (some ⟨g1, 0, none⟩) L d1) := E10.cell 1
        have q2 : W9.cell? ⟨go, 2, none⟩ = some (.slice (some ⟨g2, 0, none⟩) L d2) := E10.cell 2
        have q3 : W9.cell? ⟨go, 3, none⟩ = some (.slice (some ⟨g3, 0, none⟩) L d3) := E10.cell 3
        have s0 : W9.cell? ⟨r8, 0, none⟩ = some (.bool false) := cell_of_row _ _ _ _ _ _ E10.ld.r8
        have s1 : W9.cell? ⟨r8, 1, none⟩ = some (.slice none 0 0) := cell_of_row _ _ _ _ _ _ E10.ld.r8
        have s2 : W9.cell? ⟨r8, 2, none⟩ = some (.slice none 0 0) := cell_of_row _ _ _ _ _ _ E10.ld.r8
        have s3 : W9.cell? ⟨r8, 3, none⟩ = some (.slice none 0 0) := cell_of_row _ _ _ _ _ _ E10.ld.r8
        have t0 : W9.frozen? ⟨r8, 0, none⟩ = false := frozen_of_row _ _ _ _ _ E10.ld.r8
        have t1 : W9.frozen? ⟨r8, 1, none⟩ = false := frozen_of_row _ _ _ _ _ E10.ld.r8
        have t2 : W9.frozen? ⟨r8, 2, none⟩ = false := frozen_of_row _ _ _ _ _ E10.ld.r8
        have t3 : W9.frozen? ⟨r8, 3, none⟩ = false := frozen_of_row _ _ _ _ _ E10.ld.r8
        have HE10 := Lib.hid E10
        clear E10 HE9 hW9 p3 f3
        go_wp2_with fail
        obtain ⟨V, hV⟩ : ∃ V, (((W9.setCell ⟨r8, 0, none⟩ (.bool true)).setCell ⟨r8, 1, none⟩ (.slice (some ⟨g1, 0, none⟩) L d1)).setCell ⟨r8, 2, none⟩ (.slice (some ⟨g2, 0, none⟩) L d2)).setCell ⟨r8, 3, none⟩ (.slice (some ⟨g3, 0, none⟩) L d3) = V := ⟨_, rfl⟩
        rw [hV]
        have hr : V.heap[r8]? = some (.cells #[.bool true, .slice (some ⟨g1, 0, none⟩) L d1, .slice (some ⟨g2, 0, none⟩) L d2, .slice (some ⟨g3, 0, none⟩) L d3] 29 (0, 0)) := by
          subst hV
          exact heap_set_dg _ (heap_set_dg _ (heap_set_dg _ (heap_set_dg _ HE10.out.ld.r8 0 _) 1 _) 2 _) 3 _
        have ho : ∀ k, k ≠ r8 → V.heap[k]? = W9.heap[k]? := fun k hk => by
          subst hV
          rw [Below.heap_setCell _ _ _ _ hk, Below.heap_setCell _ _ _ _ hk, Below.heap_setCell _ _ _ _ hk, Below.heap_setCell _ _ _ _ hk]
        have hz : V.heap.size = W9.heap.size ∧ V.os = W9.os ∧ V.tape = W9.tape ∧ V.output = W9.output := by
          subst hV
          simp [World.setCell]
        have b0 : V.cell? ⟨r8, 0, none⟩ = some (.bool true) := cell_of_row _ _ _ _ _ _ hr
        have b1 : V.cell? ⟨r8, 1, none⟩ = some (.slice (some ⟨g1, 0, none⟩) L d1) := cell_of_row _ _ _ _ _ _ hr
        have b2 : V.cell? ⟨r8, 2, none⟩ = some (.slice (some ⟨g2, 0, none⟩) L d2) := cell_of_row _ _ _ _ _ _ hr
        have b3 : V.cell? ⟨r8, 3, none⟩ = some (.slice (some ⟨g3, 0, none⟩) L d3) := cell_of_row _ _ _ _ _ _ hr
        have own : ∀ x ∈ [(g3, d3, sum (bs1 ++ bs3)), (g2, d2, sum bs1), (g1, d1, sum bs1)], Own V w.heap.size x.1 x.2.1 x.2.2 := fun x hx => (HE10.out.own x hx).1.keep (ho _ (HE10.out.own x hx).2.2.2)
        have bel : Below w.heap.size w V := by
          have q := HE10.out.ld.bel
          have n6 := HE10.out.ne.2.2.2.2.2
          exact ⟨hz.2.1.trans q.os, hz.2.2.1.trans q.tape, hz.2.2.2.trans q.output, by rw [hz.1]; exact q.size, fun k hk => (ho k (by omega)).trans (q.block k hk)⟩
        refine bodyPost_ret (v := .agg #[.bool true, .slice (some ⟨g1, 0, none⟩) L d1, .slice (some ⟨g2, 0, none⟩) L d2, .slice (some ⟨g3, 0, none⟩) L d3]) (by simp [results, Tryz.results13, go_sem, b0, b1, b2, b3]) rfl ⟨g1, d1, g2, d2, g3, d3, rfl, ?_, ?_, ?_, bel⟩
        · exact own (g1, d1, sum bs1) (by simp)
        · exact own (g2, d2, sum bs1) (by simp)
        · exact own (g3, d3, sum (bs1 ++ bs3)) (by simp)

end Go.Proofs.YtemojkjcnkbpoaaGreat

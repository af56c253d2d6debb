/-
  A hash of any kind, by what its methods do: words for the walks that serve all kinds. No condition.
-/
import Derived.Test.YtemojkjcnkbpoaaGreatDoorOwn
import Derived.Test.YtemojkjcnkbpoaaGreatDoorSrc
import Derived.Test.YtemojkjcnkbpoaaGreatDoorSame
import Derived.Test.YtemojkjcnkbpoaaGreatDoorApp
import Derived.Deep.RegionWith
import Derived.Deep.DeepCutAuto
import Derived.Shelf.Abstract
namespace Go.Proofs.YtemojkjcnkbpoaaGreatDoor
open Go.RowKit
set_option linter.unusedVariables false

/-- what a kind of hash does: of type tw, with its methods Write and Sum; 'St w h bs': block h is such a hash that has been given bs -/
structure HK (P : Program) (nh : FuncId) (kind : Int) (tw : TypeId) (fW fS : FuncId) (St : World → Nat → List UInt8 → Prop) (sum : List UInt8 → List UInt8) : Prop where
  nW : ∀ k a w, (nilAhead (k + 1) tw (.pointer (some a)) "Write").run P w = .ok (some false) w
  mW : ∀ k a w, (method (k + 1) tw (.pointer (some a)) "Write").run P w = .ok (fW, .pointer (some a)) w
  eW : ∀ args w, (callFunc fW args).run P w = .ok (.enter fW args) w
  nS : ∀ k a w, (nilAhead (k + 1) tw (.pointer (some a)) "Sum").run P w = .ok (some false) w
  mS : ∀ k a w, (method (k + 1) tw (.pointer (some a)) "Sum").run P w = .ok (fS, .pointer (some a)) w
  eS : ∀ args w, (callFunc fS args).run P w = .ok (.enter fS args) w
  keep : ∀ {w w' : World} {h : Nat} {bs : List UInt8}, St w h bs → w'.heap[h]? = w.heap[h]? → St w' h bs
  lt : ∀ {w : World} {h : Nat} {bs : List UInt8}, St w h bs → h < w.heap.size
  blk : ∀ {w : World} {h : Nat} {bs : List UInt8}, St w h bs → ∃ cur T, w.heap[h]? = some (.cells cur T (0, 0)) ∧ T ≠ 5 ∧ T ≠ 22
  new : ∀ w : World, Calls P nh #[.int .i64 kind] w fun e w' => ∃ h, e = .returned (.iface tw (.pointer (some ⟨h, 0, none⟩))) ∧ St w' h [] ∧ w.heap.size ≤ h ∧ h < w'.heap.size ∧ Below w.heap.size w w'
  write : ∀ (h : Nat) (A : Option Addr) (n c : Nat) (bs p : List UInt8) (w : World), St w h bs → n = p.length → Src w h A p → n ≤ c → c ≤ 9223372036854775807 →
    Calls P fW #[.pointer (some ⟨h, 0, none⟩), .slice A n c] w fun e w' => e = .returned (.tuple #[.int .i64 (n : Int), .nilIface]) ∧ St w' h (bs ++ p) ∧ w.grownBy w' (some h)
  sum : ∀ (h : Nat) (bs : List UInt8) (w : World), St w h bs →
    Calls P fS #[.pointer (some ⟨h, 0, none⟩), .slice none 0 0] w fun e w' => ∃ g c, e = .returned (.slice (some ⟨g, 0, none⟩) (sum bs).length c) ∧ Own w' w.heap.size g c (sum bs) ∧ Below w.heap.size w w'

set_option maxRecDepth 100000 in
set_option maxHeartbeats 1000000 in
theorem sumOf_hk {kind : Int} {tw : TypeId} {fW fS : FuncId} {St : World → Nat → List UInt8 → Prop} {sum : List UInt8 → List UInt8} (K : HK Tryz.prog 17 kind tw fW fS St sum) (A : Option Addr) (n c : Nat) (bs : List UInt8) (w : World) (hn : n = bs.length) (h : Rd w w.heap.size A bs) (hl : bs.length ≤ 200000000000000) :
    Calls Tryz.prog 10 #[.int .i64 kind, .slice A n c] w fun e w' => ∃ g d, e = .returned (.slice (some ⟨g, 0, none⟩) (sum bs).length d) ∧ Own w' w.heap.size g d (sum bs) ∧ Below w.heap.size w w' := by
  have HN := Lib.hid hn
  clear hn
  go_enter Tryz.func10, Tryz.ntmps10
  go_wp2_with fail
  refine (K.new w).mono ?_
  rintro e w1 ⟨hb, rfl, hst, hge, hlt, hb1⟩
  have HST := Lib.hid hst
  clear hst
  have cOwn : Calls Tryz.prog 14 #[.slice A n c] w1.drew fun e w' => ∃ g d, e = .returned (.slice (some ⟨g, 0, none⟩) bs.length d) ∧ Own w' w1.heap.size g d bs ∧ Below w1.heap.size w1 w' :=
    (own_any A n c bs w1.drew HN.out ((h.below hb1).mono (by show _ ≤ w1.heap.size; omega)) hl).mono fun e w' ⟨g, d, e1, e2, e3⟩ => ⟨g, d, e1, e2, e3.os, e3.tape, e3.output, e3.size, e3.block⟩
  have cWr : ∀ g2 d2 w2, Own w2 w1.heap.size g2 d2 bs → Below w1.heap.size w1 w2 → Calls Tryz.prog fW #[.pointer (some ⟨hb, 0, none⟩), .slice (some ⟨g2, 0, none⟩) bs.length d2] w2 fun e w' => e = .returned (.tuple #[.int .i64 (bs.length : Int), .nilIface]) ∧
      Hid (St w' hb bs ∧ Below w.heap.size w w' ∧ hb < w'.heap.size) := by
    intro g2 d2 w2 hown hb2
    have hcap := hown.caps
    have hg2 := hown.lt'
    refine (K.write hb (some ⟨g2, 0, none⟩) bs.length d2 [] bs w2 (K.keep HST.out (hb2.block hb hlt)) rfl (hown.src (by omega)) hcap.1 hcap.2).mono ?_
    rintro e w' ⟨rfl, h1, h2⟩
    have hsz := hb2.size
    refine ⟨rfl, by simpa using h1, ?_, by have := h2.size; omega⟩
    exact (hb1.trans (hb2.mono (by omega))).grown h2 (by omega) (fun k hk => by injection hk with hk; omega)
  have COwn := Lib.hid cOwn
  have CWr := Lib.hid cWr
  clear cOwn cWr
  have n1 := K.nW
  have n2 := K.mW
  have n3 := K.mS
  have n4 := K.nS
  have n5 := K.eW
  have n6 := K.eS
  go_upto_region 4 with (fail)
  go_cut [] (fun wc => Hid (St wc hb bs ∧ Below w.heap.size w wc ∧ hb < wc.heap.size))
  case first =>
    go_region_with (first | (go_at_call 14; refine COwn.out.mono ?_; rintro e w2 ⟨g2, d2, rfl, hown, hb2⟩) | ((with_reducible refine (CWr.out _ _ _ (by assumption) (by assumption)).mono ?_); rintro e w3 ⟨rfl, hw3⟩))
    all_goals (go_wp2_with fail; go_meet; assumption)
  case rest =>
    obtain ⟨q1, q2, q3⟩ := hcut.out
    have HQ := Lib.hid q1
    clear q1 hcut COwn CWr
    go_wp2_with fail
    refine (K.sum hb bs _ HQ.out).mono ?_
    rintro e w4 ⟨g, d, rfl, r1, r2⟩
    go_wp2_with fail
    go_ret
    have hsz := q2.size
    refine ⟨g, d, rfl, ?_, q2.trans (r2.mono hsz)⟩
    refine ⟨r1.1, ?_⟩
    rcases r1.2 with ⟨e, _⟩ | ⟨g', c', cur, e, e1, e2⟩
    · cases e
    · exact .inr ⟨g', c', cur, e, by omega, e2⟩

end Go.Proofs.YtemojkjcnkbpoaaGreatDoor

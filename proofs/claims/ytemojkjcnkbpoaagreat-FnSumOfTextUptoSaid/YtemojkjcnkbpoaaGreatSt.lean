/-
  Words for the states of all kinds of hash, and impl.StateOf. Condition: at most 2 * 10^14 bytes.
-/
import Derived.Test.YtemojkjcnkbpoaaGreatHk
import Derived.Test.YtemojkjcnkbpoaaGreatAppS
import Derived.Test.YtemojkjcnkbpoaaGreatApp2
import Derived.Test.YtemojkjcnkbpoaaGreatBE
namespace Go.Proofs.YtemojkjcnkbpoaaGreat
open Go.RowKit
set_option linter.unusedVariables false

/-- beside HK: MarshalBinary -/
structure MK (P : Program) (tw : TypeId) (fM : FuncId) (St : World → Nat → List UInt8 → Prop) (state : List UInt8 → List UInt8) : Prop where
  ta : ∀ v w, (Instr.typeAssert (.iface tw v) 39 47 false).run P w = .ok (.iface tw v) w
  nM : ∀ k a w, (nilAhead (k + 1) tw (.pointer (some a)) "MarshalBinary").run P w = .ok (some false) w
  mM : ∀ k a w, (method (k + 1) tw (.pointer (some a)) "MarshalBinary").run P w = .ok (fM, .pointer (some a)) w
  eM : ∀ args w, (callFunc fM args).run P w = .ok (.enter fM args) w
  mar : ∀ (h : Nat) (bs : List UInt8) (w : World), St w h bs →
    Calls P fM #[.pointer (some ⟨h, 0, none⟩)] w fun e w' => ∃ g c, e = .returned (.tuple #[.slice (some ⟨g, 0, none⟩) (state bs).length c, .nilIface]) ∧ Own w' w.heap.size g c (state bs) ∧ Below w.heap.size w w'

set_option maxHeartbeats 400000 in
theorem beAppend32_own (base g c : Nat) (xs : List UInt8) (n D : Nat) (w : World) (hn : n = xs.length) (hown : Own w base g c xs) (hbase : base ≤ w.heap.size) (hl : xs.length ≤ 1000) (hD : D < 4294967296) :
    Calls Tryz.prog 98 #[.slice (some ⟨g, 0, none⟩) n c, .int .u32 (D : Int)] w fun e w' => ∃ g c, e = .returned (.slice (some ⟨g, 0, none⟩) (xs ++ be32 D).length c) ∧ Own w' base g c (xs ++ be32 D) ∧ Below base w w' := by
  have HN := Lib.hid hn
  clear hn
  go_enter Tryz.func98, Tryz.ntmps98
  go_wp2_with (at_builtin; refine wpList_append_bytes rfl _ _ 22 rfl Tryz.underlying22 base g c xs (be32 D) n 4 rfl HN.out (hown.alloc _) (w.heap.size + 1) (some ⟨w.heap.size, 0, none⟩) 4 rfl rfl (be32_rd w D hD _ (Nat.lt_succ_self _)) (by simp only [be32, List.length_cons, List.length_nil]; omega) (by simp; omega) ?_; intro g' c' w' h1 h2; refine Hid.out ?_)
  refine Lib.hid ?_
  have hg := hown.lt'.1
  obtain ⟨m, hm⟩ : ∃ m, m = (xs ++ be32 D).length := ⟨_, rfl⟩
  try rw [← hm]
  have HM := Lib.hid hm
  clear hm
  go_wp2
  go_ret
  refine ⟨g', c', ?_, h1, ((Below.refl _ _).alloc hbase _).grown h2 (by simp; omega) (fun j hj => by injection hj with hj; subst hj; exact hg)⟩
  first | rfl | (rw [← HM.out]; rfl) | simp

set_option maxRecDepth 100000 in
set_option maxHeartbeats 1000000 in
theorem stateOf_hk {kind : Int} {tw : TypeId} {fW fS fM : FuncId} {St : World → Nat → List UInt8 → Prop} {sum state : List UInt8 → List UInt8} (K : HK Tryz.prog 17 kind tw fW fS St sum) (M : MK Tryz.prog tw fM St state) (A : Option Addr) (n c : Nat) (bs : List UInt8) (w : World) (hn : n = bs.length) (h : Rd w w.heap.size A bs) (hl : bs.length ≤ 200000000000000) (hsl : (state bs).length ≤ 1000) :
    Calls Tryz.prog 10 #[.int .i64 kind, .slice A n c] w fun e w' => ∃ g d, e = .returned (.slice (some ⟨g, 0, none⟩) (state bs).length d) ∧ Own w' w.heap.size g d (state bs) ∧ Below w.heap.size w w' := by
  have HN := Lib.hid hn
  clear hn
  go_enter Tryz.func10, Tryz.ntmps10
  go_wp2_with fail
  refine (K.new w).mono ?_
  rintro e w1 ⟨hb, rfl, hst, hge, hlt, hb1⟩
  have HST := Lib.hid hst
  clear hst
  have cOwn : Calls Tryz.prog 18 #[.slice A n c] w1.drew fun e w' => ∃ g d, e = .returned (.slice (some ⟨g, 0, none⟩) bs.length d) ∧ Own w' w1.heap.size g d bs ∧ Below w1.heap.size w1 w' :=
    (own_any A n c bs w1.drew HN.out ((h.below hb1).mono (by show _ ≤ w1.heap.size; omega)) hl).mono fun e w' ⟨g, d, e1, e2, e3⟩ => ⟨g, d, e1, e2, e3.os, e3.tape, e3.output, e3.size, e3.block⟩
  have cWr : ∀ g2 d2 w2, Own w2 w1.heap.size g2 d2 bs → Below w1.heap.size w1 w2 → Calls Tryz.prog fW #[.pointer (some ⟨hb, 0, none⟩), .slice (some ⟨g2, 0, none⟩) bs.length d2] w2 fun e w' => e = .returned (.tuple #[.int .i64 (bs.length : Int), .nilIface]) ∧
      Hid (St w' hb bs ∧ Below w.heap.size w w' ∧ hb < w'.heap.size) := by
    intro g2 d2 w2 hown hb2
    have hcap := hown.caps
    have hg2 := hown.lt'
    refine (K.write hb (some ⟨g2, 0, none⟩) bs.length d2 [] bs w2 (K.keep HST.out (hb2.block hb hlt)) rfl (hown.src (by omega)) hcap.1 hcap.2).mono ?_
    rintro e w' ⟨rfl, h1, h2⟩
    have hsz := hb2.size
    refine ⟨rfl, by simpa using h1, ?_, by have := h2.size; omega⟩
    exact (hb1.trans (hb2.mono (by omega))).grown h2 (by omega) (fun k hk => by injection hk with hk; omega)
  have COwn := Lib.hid cOwn
  have CWr := Lib.hid cWr
  clear cOwn cWr
  have n1 := K.nW
  have n2 := K.mW
  have n5 := K.eW
  have n7 := M.ta
  have n8 := M.nM
  have n9 := M.mM
  have n10 := M.eM
  go_upto_region 4 with (fail)
  go_cut [] (fun wc => Hid (St wc hb bs ∧ Below w.heap.size w wc ∧ hb < wc.heap.size))
  case first =>
    go_region_with (first | (go_at_call 18; refine COwn.out.mono ?_; rintro e w2 ⟨g2, d2, rfl, hown, hb2⟩) | ((with_reducible refine (CWr.out _ _ _ (by assumption) (by assumption)).mono ?_); rintro e w3 ⟨rfl, hw3⟩))
    all_goals (go_wp2_with fail; go_meet; assumption)
  case rest =>
    obtain ⟨q1, q2, q3⟩ := hcut.out
    have HQ := Lib.hid q1
    clear q1 hcut COwn CWr
    go_wp2_with fail
    refine (M.mar hb bs _ HQ.out).mono ?_
    rintro e w4 ⟨g, d, rfl, r1, r2⟩
    obtain ⟨sl, esl⟩ : ∃ sl, sl = (state bs).length := ⟨_, rfl⟩
    rw [← esl]
    have ESL := Lib.hid esl
    have hsz := q2.size
    have bw4 : Below w.heap.size w w4 := q2.trans (r2.mono hsz)
    clear esl
    go_wp2_with fail
    refine (own_any (some ⟨g, 0, none⟩) sl d (state bs) w4 ESL.out r1.rd (by omega)).mono ?_
    rintro e w5 ⟨g5, d5, rfl, r5, b5⟩
    go_wp2_with fail
    go_ret
    refine ⟨g5, d5, rfl, ?_, bw4.trans (b5.mono bw4.size)⟩
    refine ⟨r5.1, ?_⟩
    rcases r5.2 with ⟨e, _⟩ | ⟨g', c', cur, e, e1, e2⟩
    · cases e
    · exact .inr ⟨g', c', cur, e, by have := bw4.size; omega, e2⟩

end Go.Proofs.YtemojkjcnkbpoaaGreat

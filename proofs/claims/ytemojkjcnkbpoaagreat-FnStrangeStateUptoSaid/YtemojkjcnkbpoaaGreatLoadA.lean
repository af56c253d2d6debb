/-
  impl.LoadState at all kinds, at bytes that are no state; impl.StateOf at numbers that are no kind. Condition: at most 2 * 10^14 bytes.
-/
import Derived.Test.YtemojkjcnkbpoaaGreatUkK
import Derived.Test.YtemojkjcnkbpoaaGreatLoad
import Derived.Test.YtemojkjcnkbpoaaGreatJoined
import Derived.Test.YtemojkjcnkbpoaaGreatSame
import Derived.Test.YtemojkjcnkbpoaaGreatKpa
namespace Go.Proofs.YtemojkjcnkbpoaaGreat
open Go.RowKit
set_option linter.unusedVariables false

theorem loadState_a (k : Nat) (hk : k < 11) (A1 : Option Addr) (n1 c1 : Nat) (bs1 : List UInt8) (A2 : Option Addr) (n2 c2 : Nat) (bs2 : List UInt8) (A3 : Option Addr) (n3 c3 : Nat) (bs3 : List UInt8) (w : World) (hn1 : n1 = bs1.length) (r1 : Rd w w.heap.size A1 bs1) (l1 : bs1.length ≤ 200000000000000) (hn2 : n2 = bs2.length) (r2 : Rd w w.heap.size A2 bs2) (l2 : bs2.length ≤ 200000000000000) (hn3 : n3 = bs3.length) (r3 : Rd w w.heap.size A3 bs3) (l3 : bs3.length ≤ 200000000000000) (hbad : BadA k bs2) :
    Calls Tryz.prog 13 #[.int .i64 (k : Int), .slice A1 n1 c1, .slice A2 n2 c2, .slice A3 n3 c3] w fun e w' => ∃ g1 d1 g2 d2 g3 d3, e = .returned (.agg #[.bool true, .slice (some ⟨g1, 0, none⟩) (lenA k) d1, .slice (some ⟨g2, 0, none⟩) (lenA k) d2, .slice (some ⟨g3, 0, none⟩) (lenA k) d3]) ∧
      Own w' w.heap.size g1 d1 (sumA k bs1) ∧ Own w' w.heap.size g2 d2 (sumA k bs1) ∧ Own w' w.heap.size g3 d3 (sumA k (bs1 ++ bs3)) ∧ Below w.heap.size w w' := by
  obtain ⟨tw, fW, fS, fM, fU, St, K⟩ := allK k hk
  exact loadState_hk K.kh K.km K.ku A1 n1 c1 bs1 A2 n2 c2 bs2 A3 n3 c3 bs3 w hn1 r1 l1 hn2 r2 l2 hn3 r3 l3 hbad (lenA k) (sumA_len k hk)

set_option maxHeartbeats 1000000 in
theorem newHash_none (a : Int) (h : ¬ (0 ≤ a ∧ a ≤ 10)) (w : World) : Calls Tryz.prog 17 #[.int .i64 a] w fun e w' => e = .returned .nilIface ∧ w' = w := by
  have t0 : (a == 0) = false := by rw [beq_eq_false_iff_ne]; omega
  have t1 : (a == 1) = false := by rw [beq_eq_false_iff_ne]; omega
  have t2 : (a == 2) = false := by rw [beq_eq_false_iff_ne]; omega
  have t3 : (a == 3) = false := by rw [beq_eq_false_iff_ne]; omega
  have t4 : (a == 4) = false := by rw [beq_eq_false_iff_ne]; omega
  have t5 : (a == 5) = false := by rw [beq_eq_false_iff_ne]; omega
  have t6 : (a == 6) = false := by rw [beq_eq_false_iff_ne]; omega
  have t7 : (a == 7) = false := by rw [beq_eq_false_iff_ne]; omega
  have t8 : (a == 8) = false := by rw [beq_eq_false_iff_ne]; omega
  have t9 : (a == 9) = false := by rw [beq_eq_false_iff_ne]; omega
  have t10 : (a == 10) = false := by rw [beq_eq_false_iff_ne]; omega
  clear h
  go_enter Tryz.func17, Tryz.ntmps17
  go_wp2
  go_ret
  exact ⟨rfl, rfl⟩

set_option maxHeartbeats 1000000 in
theorem stateOf_none (a : Int) (h : ¬ (0 ≤ a ∧ a ≤ 10)) (A : Option Addr) (n c : Nat) (w : World) : Calls Tryz.prog 10 #[.int .i64 a, .slice A n c] w fun e w' => e = .returned (.slice none 0 0) ∧ w' = w := by
  have X := Lib.hid (newHash_none a h w)
  clear h
  go_enter Tryz.func10, Tryz.ntmps10
  go_wp2_with fail
  refine X.out.mono ?_
  rintro e w1 ⟨rfl, rfl⟩
  go_wp2_with fail
  go_ret
  exact ⟨rfl, rfl⟩

/-- behind LoadState: the struct and the rows -/
structure SR (w wc : World) (k : Nat) (bs1 bs4 : List UInt8) (go L g1 d1 g2 d2 g3 d3 : Nat) : Prop where
  blk : wc.heap[go]? = some (.cells #[.bool true, .slice (some ⟨g1, 0, none⟩) L d1, .slice (some ⟨g2, 0, none⟩) L d2, .slice (some ⟨g3, 0, none⟩) L d3] 29 (0, 0))
  r1 : Rd wc wc.heap.size (some ⟨g1, 0, none⟩) (sumA k bs1)
  r2 : Rd wc wc.heap.size (some ⟨g2, 0, none⟩) (sumA k bs1)
  r3 : Rd wc wc.heap.size (some ⟨g3, 0, none⟩) (sumA k (bs1 ++ bs4))
  bel : Below w.heap.size w wc

section
variable {w wc : World} {k : Nat} {bs1 bs4 : List UInt8} {go L g1 d1 g2 d2 g3 d3 : Nat}
theorem SR.lt (h : SR w wc k bs1 bs4 go L g1 d1 g2 d2 g3 d3) : go < wc.heap.size := (Array.getElem?_eq_some_iff.1 h.blk).1
theorem SR.cells (h : SR w wc k bs1 bs4 go L g1 d1 g2 d2 g3 d3) : wc.cell? ⟨go, 0, none⟩ = some (.bool true) ∧ wc.cell? ⟨go, 1, none⟩ = some (.slice (some ⟨g1, 0, none⟩) L d1) ∧ wc.cell? ⟨go, 2, none⟩ = some (.slice (some ⟨g2, 0, none⟩) L d2) ∧ wc.cell? ⟨go, 3, none⟩ = some (.slice (some ⟨g3, 0, none⟩) L d3) :=
  ⟨cell_of_row _ _ _ _ _ _ h.blk, cell_of_row _ _ _ _ _ _ h.blk, cell_of_row _ _ _ _ _ _ h.blk, cell_of_row _ _ _ _ _ _ h.blk⟩

theorem same_true (W : World) (B : Nat) (wc : World) (A A' : Option Addr) (n d d' : Nat) (x : List UInt8) (hn : n = x.length) (hl : n ≤ 100) (h1 : Rd wc wc.heap.size A x) (h2 : Rd W W.heap.size A' x) (hK : Kpa wc.heap.size wc W) :
    Calls Tryz.prog 12 #[.slice A n d, .slice A' n d'] W fun e w' => e = .returned (.bool true) ∧ Kpa wc.heap.size wc w' := by
  have h := same_any A A' n n d d' x x wc.heap.size W.heap.size W hn hn (h1.below hK.bel) h2 (by omega) (by omega)
  rw [decide_eq_true rfl] at h
  refine h.mono ?_
  rintro e w' ⟨he, q, rfl⟩
  exact ⟨he, hK.dr q⟩

theorem SR.after (h : SR w wc k bs1 bs4 go L g1 d1 g2 d2 g3 d3) (hk : k < 11) (hL : L = lenA k) (W : World) (hK : Kpa wc.heap.size wc W) :
    Calls Tryz.prog 12 #[.slice (some ⟨g2, 0, none⟩) L d2, .slice (some ⟨g1, 0, none⟩) L d1] W fun e w' => e = .returned (.bool true) ∧ Kpa wc.heap.size wc w' :=
  same_true W wc.heap.size wc _ _ L d2 d1 (sumA k bs1) (by rw [sumA_len k hk, hL]) (by have := lenA_le k; omega) h.r2 ((h.r1.below hK.bel).mono hK.le) hK
theorem SR.before (h : SR w wc k bs1 bs4 go L g1 d1 g2 d2 g3 d3) (hk : k < 11) (hL : L = lenA k) (gs ds : Nat) (W : World) (hK : Kpa wc.heap.size wc W) (hr : Rd W W.heap.size (some ⟨gs, 0, none⟩) (sumA k bs1)) :
    Calls Tryz.prog 12 #[.slice (some ⟨g1, 0, none⟩) L d1, .slice (some ⟨gs, 0, none⟩) L ds] W fun e w' => e = .returned (.bool true) ∧ Kpa wc.heap.size wc w' :=
  same_true W wc.heap.size wc _ _ L d1 ds (sumA k bs1) (by rw [sumA_len k hk, hL]) (by have := lenA_le k; omega) h.r1 hr hK
theorem SR.next (h : SR w wc k bs1 bs4 go L g1 d1 g2 d2 g3 d3) (hk : k < 11) (hL : L = lenA k) (gs ds : Nat) (W : World) (hK : Kpa wc.heap.size wc W) (hr : Rd W W.heap.size (some ⟨gs, 0, none⟩) (sumA k (bs1 ++ bs4))) :
    Calls Tryz.prog 12 #[.slice (some ⟨g3, 0, none⟩) L d3, .slice (some ⟨gs, 0, none⟩) L ds] W fun e w' => e = .returned (.bool true) ∧ Kpa wc.heap.size wc w' :=
  same_true W wc.heap.size wc _ _ L d3 ds (sumA k (bs1 ++ bs4)) (by rw [sumA_len k hk, hL]) (by have := lenA_le k; omega) h.r3 hr hK
end

theorem joined_kpa (wc : World) (A1 A4 : Option Addr) (n1 c1 n4 c4 N : Nat) (bs1 bs4 : List UInt8) (h1 : n1 = bs1.length) (h4 : n4 = bs4.length) (hN : N = (bs1 ++ bs4).length) (r1 : Rd wc wc.heap.size A1 bs1) (r4 : Rd wc wc.heap.size A4 bs4) (l1 : bs1.length ≤ 2000000) (l4 : bs4.length ≤ 2000000) (Lb : Nat) (W : World) (hLb : Lb = W.heap.size) (hK : Kpa wc.heap.size wc W) :
    Calls Tryz.prog 14 #[.slice (some ⟨Lb, 0, none⟩) 2 2] (W.alloc (.cells #[.slice A1 n1 c1, .slice A4 n4 c4] 22)) fun e w' => ∃ g d, e = .returned (.slice (some ⟨g, 0, none⟩) N d) ∧ Rd w' w'.heap.size (some ⟨g, 0, none⟩) (bs1 ++ bs4) ∧ Kpa wc.heap.size wc w' := by
  subst hLb
  refine (joined2 A1 A4 n1 c1 n4 c4 bs1 bs4 W h1 h4 ((r1.below hK.bel).mono hK.le) ((r4.below hK.bel).mono hK.le) (by omega)).mono ?_
  rintro e w' ⟨g, d, he, ho, hb, _⟩
  rw [← hN] at he
  exact ⟨g, d, he, ho.rd, hK.step hb⟩

theorem sum_kpa (wc : World) (k : Nat) (hk : k < 11) (L : Nat) (hL : L = lenA k) (N : Nat) (bs : List UInt8) (hN : N = bs.length) (hl : bs.length ≤ 4000000) (A : Option Addr) (d : Nat) (W : World) (hK : Kpa wc.heap.size wc W) (hr : Rd W W.heap.size A bs) :
    Calls Tryz.prog 11 #[.int .i64 (k : Int), .slice A N d] W fun e w' => ∃ g ds, e = .returned (.slice (some ⟨g, 0, none⟩) L ds) ∧ Rd w' w'.heap.size (some ⟨g, 0, none⟩) (sumA k bs) ∧ Kpa wc.heap.size wc w' := by
  refine (sumOf_a k hk A N d bs W hN hr (by omega)).mono ?_
  rintro e w' ⟨g, ds, he, ho, hb⟩
  rw [← hL] at he
  exact ⟨g, ds, he, ho.rd, hK.step hb⟩

/-- the struct's block laid -/
theorem SR.made {w w0 w5 : World} {k : Nat} {bs1 bs4 : List UInt8} {L g1 d1 g2 d2 g3 d3 : Nat} {B : Nat} (hb0 : Below w.heap.size w w0) (hb : Below w0.heap.size w0 w5) (o1 : Own w5 B g1 d1 (sumA k bs1)) (o2 : Own w5 B g2 d2 (sumA k bs1)) (o3 : Own w5 B g3 d3 (sumA k (bs1 ++ bs4))) :
    SR w (w5.alloc (.cells #[.bool true, .slice (some ⟨g1, 0, none⟩) L d1, .slice (some ⟨g2, 0, none⟩) L d2, .slice (some ⟨g3, 0, none⟩) L d3] 29)) k bs1 bs4 w5.heap.size L g1 d1 g2 d2 g3 d3 := by
  have z := hb0.size
  have z5 := hb.size
  have up : ∀ {A : Option Addr} {bs : List UInt8} (o : Obj), Rd w5 w5.heap.size A bs → Rd (w5.alloc o) (w5.alloc o).heap.size A bs := fun o h => (h.alloc (Nat.le_refl _) o).mono (by simp)
  exact ⟨heap_alloc_new w5 _, up _ o1.rd, up _ o2.rd, up _ o3.rd, (hb0.trans (hb.mono z)).alloc (by omega) _⟩

end Go.Proofs.YtemojkjcnkbpoaaGreat

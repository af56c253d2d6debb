/-
  impl.SumOf at the kind 6: the sum of the bytes, in a new row. Condition: at most 2 * 10^14 bytes.
-/
import Derived.Test.YtciadiaodceijaaAdlH
import Derived.Test.YtciadiaodceijaaOwn
import Derived.Deep.RegionWith
import Derived.Deep.DeepCutAuto
namespace Go.Proofs.Ytciadiaodceijaa
open Go.RowKit

theorem nil_write_6 (k : Nat) (a : Addr) (w : World) : (nilAhead (k + 1) 61 (.pointer (some a)) "Write").run Try.prog w = .ok (some false) w := by kernel_rfl
theorem m_write_6 (k : Nat) (a : Addr) (w : World) : (method (k + 1) 61 (.pointer (some a)) "Write").run Try.prog w = .ok (108, .pointer (some a)) w := by kernel_rfl
theorem m_sum_6 (k : Nat) (a : Addr) (w : World) : (method (k + 1) 61 (.pointer (some a)) "Sum").run Try.prog w = .ok (106, .pointer (some a)) w := by kernel_rfl

set_option maxRecDepth 100000 in
set_option maxHeartbeats 1000000 in
theorem sumOf_6 (A : Option Addr) (n c : Nat) (bs : List UInt8) (w : World) (hn : n = bs.length) (h : Rd w w.heap.size A bs) (hl : bs.length ≤ 200000000000000) :
    Calls Try.prog 6 #[.int .i64 6, .slice A n c] w fun e w' => ∃ g d, e = .returned (.slice (some ⟨g, 0, none⟩) (sum6 bs).length d) ∧ Own w' w.heap.size g d (sum6 bs) ∧ Below w.heap.size w w' := by
  have HN := Lib.hid hn
  clear hn
  go_enter Try.func6, Try.ntmps6
  go_wp2_with fail
  refine (new_6 w).mono ?_
  rintro e w1 ⟨hb, rfl, hst, hge, hlt, hb1⟩
  have HST := Lib.hid hst
  clear hst
  have cOwn : Calls Try.prog 8 #[.slice A n c] w1.drew fun e w' => ∃ g d, e = .returned (.slice (some ⟨g, 0, none⟩) bs.length d) ∧ Own w' w1.heap.size g d bs ∧ Below w1.heap.size w1 w' :=
    (own_any A n c bs w1.drew HN.out ((h.below hb1).mono (by show _ ≤ w1.heap.size; omega)) hl).mono fun e w' ⟨g, d, e1, e2, e3⟩ => ⟨g, d, e1, e2, e3.os, e3.tape, e3.output, e3.size, e3.block⟩
  have cWr : ∀ g2 d2 w2, Own w2 w1.heap.size g2 d2 bs → Below w1.heap.size w1 w2 → Calls Try.prog 108 #[.pointer (some ⟨hb, 0, none⟩), .slice (some ⟨g2, 0, none⟩) bs.length d2] w2 fun e w' => e = .returned (.tuple #[.int .i64 (bs.length : Int), .nilIface]) ∧
      Hid (St6 w' hb bs ∧ Below w.heap.size w w' ∧ hb < w'.heap.size) := by
    intro g2 d2 w2 hown hb2
    have hcap : bs.length ≤ d2 ∧ d2 ≤ 9223372036854775807 := by
      rcases hown.2 with ⟨e, _⟩ | ⟨g', c', cur, e, _, _, h1, h2, _⟩
      · cases e
      · injection e with _ _ e3
        subst e3
        exact ⟨h1, h2⟩
    refine (write_6 hb (some ⟨g2, 0, none⟩) bs.length d2 _ [] bs w2 (HST.out.keep (hb2.block hb hlt)) rfl hown.rd hcap.1 hcap.2).mono ?_
    rintro e w' ⟨rfl, h1, h2⟩
    have hsz := hb2.size
    refine ⟨rfl, by simpa using h1, ?_, by have := h2.size; omega⟩
    exact (hb1.trans (hb2.mono (by omega))).grown h2 (by omega) (fun k hk => by injection hk with hk; omega)
  have COwn := Lib.hid cOwn
  have CWr := Lib.hid cWr
  clear cOwn cWr
  have n1 := fun k a w => nil_write_6 k a w
  have n2 := fun k a w => m_write_6 k a w
  have n3 := fun k a w => m_sum_6 k a w
  go_upto_region 4 with (fail)
  go_cut [] (fun wc => Hid (St6 wc hb bs ∧ Below w.heap.size w wc ∧ hb < wc.heap.size))
  case first =>
    go_region_with (first | (go_at_call 8; refine COwn.out.mono ?_; rintro e w2 ⟨g2, d2, rfl, hown, hb2⟩) | (go_at_call 108; refine (CWr.out _ _ _ (by assumption) (by assumption)).mono ?_; rintro e w3 ⟨rfl, hw3⟩))
    all_goals (go_wp2_with fail; go_meet; assumption)
  case rest =>
    obtain ⟨q1, q2, q3⟩ := hcut.out
    have HQ := Lib.hid q1
    clear q1 hcut COwn CWr
    go_wp2_with fail
    refine (sum_6 hb bs _ HQ.out).mono ?_
    rintro e w4 ⟨g, d, rfl, r1, r2⟩
    go_wp2_with fail
    go_ret
    have hsz := q2.size
    refine ⟨g, d, rfl, ?_, q2.trans (r2.mono hsz)⟩
    refine ⟨r1.1, ?_⟩
    rcases r1.2 with ⟨e, _⟩ | ⟨g', c', cur, e, e1, e2⟩
    · cases e
    · exact .inr ⟨g', c', cur, e, by omega, e2⟩

end Go.Proofs.Ytciadiaodceijaa

/-
  SHA-3: UnmarshalBinary at bytes that are no state of that kind: an error, and nothing turns. No condition.
-/
import Derived.Test.YtemojkjcnkbpoaaGreatShaK
import Derived.Test.YtemojkjcnkbpoaaGreatUkA
namespace Go.Proofs.YtemojkjcnkbpoaaGreat
open Go.RowKit Go.Shelf
set_option linter.unusedVariables false

def BadS (rate : Nat) (p : List UInt8) : Prop := p.length ≠ 207 ∨ p.take 4 ≠ mag8 ∨ p[4]? ≠ some (UInt8.ofNat rate)

set_option maxRecDepth 100000 in
set_option maxHeartbeats 2000000 in
theorem dUnm_any {T : TypeId} {a : List UInt8} {m rate out : Nat} (h : Nat) (A : Option Addr) (n c : Nat) (p : List UInt8) (w : World) (d : DG w h T a m rate 6 out 0 []) (hrt : rate ≤ 200) (hn : n = p.length) (hr : Rd w w.heap.size A p) (hnc : n ≤ c) (hc : c ≤ 9223372036854775807) (hb : BadS rate p) :
    Calls Tryz.prog 67 #[.pointer (some ⟨h, 0, none⟩), .slice A n c] w fun e w' => ∃ v, e = .returned (.iface 122 v) ∧ Below w.heap.size w w' := by
  have EN := Lib.hid (fun s => errNew_any s w)
  obtain ⟨-, c1, c2, -, -⟩ := d.cs
  replace c2 : w.cell? ⟨h, 202, none⟩ = some (.int .u8 6) := c2
  by_cases h7 : n = 207
  · obtain rfl : 207 = n := h7.symm
    rcases hr with e | ⟨b, o, rfl, hbl, hcell⟩
    · subst e; simp at hn
    have hcv := conv4 (w := w) (A := some ⟨b, o, none⟩) c (.inr ⟨b, o, rfl, hbl, hcell⟩) (by omega)
    obtain ⟨P4, hP⟩ : ∃ P4, p.take 4 = P4 := ⟨_, rfl⟩
    unfold BadS at hb
    rw [hP] at hcv hb
    by_cases h5 : P4 = mag8
    · have t3 : (P4 == mag8) = true := beq_iff_eq.2 h5
      obtain ⟨y, hy⟩ : ∃ y, p[4]? = some y := ⟨_, List.getElem?_eq_getElem (by omega)⟩
      have cy := hcell 4 y hy
      have hyn : y.toNat ≠ rate := fun e => by
        rcases hb with h | h | h
        · omega
        · exact h h5
        · rw [hy] at h; exact h (by rw [← e, UInt8.ofNat_toNat])
      have ly := y.toNat_lt
      have t4 : ((y.toNat : Int) != (rate : Int)) = true := by rw [bne_iff_ne]; omega
      unfold mag8 at t3
      clear hb hn hP h5 hcell d hy hyn
      go_enter Tryz.func67, Tryz.ntmps67
      go_wp2_with fail
      refine (EN.out _).mono ?_
      rintro e w' ⟨v, rfl, b1⟩
      go_wp2_with fail
      go_ret
      exact ⟨v, rfl, b1⟩
    have t8 : P4 ≠ mag8 := h5
    clear hb hn hP hcell d h5
    by_cases h9 : P4 = [115, 104, 97, 9]
    · subst h9
      clear t8
      go_enter Tryz.func67, Tryz.ntmps67
      go_wp2_with fail
      refine (EN.out _).mono ?_
      rintro e w' ⟨v, rfl, b1⟩
      go_wp2_with fail
      go_ret
      exact ⟨v, rfl, b1⟩
    by_cases h10 : P4 = [115, 104, 97, 10]
    · subst h10
      clear t8
      go_enter Tryz.func67, Tryz.ntmps67
      go_wp2_with fail
      refine (EN.out _).mono ?_
      rintro e w' ⟨v, rfl, b1⟩
      go_wp2_with fail
      go_ret
      exact ⟨v, rfl, b1⟩
    by_cases h11 : P4 = [115, 104, 97, 11]
    · subst h11
      clear t8
      go_enter Tryz.func67, Tryz.ntmps67
      go_wp2_with fail
      refine (EN.out _).mono ?_
      rintro e w' ⟨v, rfl, b1⟩
      go_wp2_with fail
      go_ret
      exact ⟨v, rfl, b1⟩
    have t3 : (P4 == [115, 104, 97, 8]) = false := beq_eq_false_iff_ne.2 t8
    have t9 : (P4 == [115, 104, 97, 9]) = false := beq_eq_false_iff_ne.2 h9
    have t10 : (P4 == [115, 104, 97, 10]) = false := beq_eq_false_iff_ne.2 h10
    have t11 : (P4 == [115, 104, 97, 11]) = false := beq_eq_false_iff_ne.2 h11
    clear t8 h9 h10 h11
    go_enter Tryz.func67, Tryz.ntmps67
    go_wp2_with fail
    refine (EN.out _).mono ?_
    rintro e w' ⟨v, rfl, b1⟩
    go_wp2_with fail
    go_ret
    exact ⟨v, rfl, b1⟩
  · have t1 : ((n : Int) != 207) = true := by rw [bne_iff_ne]; omega
    clear hr hb hn d
    go_enter Tryz.func67, Tryz.ntmps67
    go_wp2_with fail
    refine (EN.out _).mono ?_
    rintro e w' ⟨v, rfl, b1⟩
    go_wp2_with fail
    go_ret
    exact ⟨v, rfl, b1⟩

set_option maxHeartbeats 1000000 in
theorem sUnm_any {T : TypeId} {a : List UInt8} {m rate out : Nat} (h : Nat) (A : Option Addr) (n c : Nat) (p : List UInt8) (w : World) (d : DG w h T a m rate 6 out 0 []) (ho : 0 < out) (hrt : rate ≤ 200) (hn : n = p.length) (hr : Rd w w.heap.size A p) (hnc : n ≤ c) (hc : c ≤ 9223372036854775807) (hb : BadS rate p) :
    Calls Tryz.prog 62 #[.pointer (some ⟨h, 0, none⟩), .slice A n c] w fun e w' => ∃ v, e = .returned (.iface 122 v) ∧ Below w.heap.size w w' := by
  have X := Lib.hid (dUnm_any h A n c p w d hrt hn hr hnc hc hb)
  have Y := Lib.hid (init_any d ho)
  clear d hn hr hb
  go_enter Tryz.func62, Tryz.ntmps62
  go_wp2_with (first | (go_at_call 64; refine Y.out.mono ?_; rintro e w0 ⟨rfl, rfl⟩) | (go_at_call 67; refine X.out.mono ?_; rintro e w1 ⟨v, rfl, B1⟩; replace B1 := Lib.hid B1))
  go_ret
  exact ⟨v, rfl, B1.out⟩

theorem uk_S {rate out : Nat} (hr : rate ≤ 200) (ho : OutOk out) : UK Tryz.prog 61 62 (StS rate out) (BadS rate) := {
  nU := fun k a w => by kernel_rfl
  mU := fun k a w => by kernel_rfl
  eU := enters_of Tryz.func62 (by kernel_rfl) rfl
  unm := fun h bs A n c p w hs hn hrd hnc hc hb => sUnm_any h A n c p w hs (by unfold OutOk at ho; omega) hr hn hrd hnc hc hb }

end Go.Proofs.YtemojkjcnkbpoaaGreat

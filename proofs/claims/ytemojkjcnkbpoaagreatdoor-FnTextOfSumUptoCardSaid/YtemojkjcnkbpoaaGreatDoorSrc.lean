/-
  Bytes in plain memory, apart from a block. No condition.
-/
import Derived.Test.YtemojkjcnkbpoaaGreatDoorBase
namespace Go.Proofs.YtemojkjcnkbpoaaGreatDoor
open Go.RowKit
set_option linter.unusedVariables false

/-- bytes in plain memory, apart from block h -/
def Src (w : World) (h : Nat) (A : Option Addr) (p : List UInt8) : Prop :=
  p = [] ∨ ∃ b o cs T, A = some ⟨b, o, none⟩ ∧ w.heap[b]? = some (.cells cs T (0, 0)) ∧ b ≠ h ∧ ∀ (i : Nat) (x : UInt8), p[i]? = some x → cs[o + i]? = some (.int .u8 (x.toNat : Int))
theorem Src.rd {w : World} {h : Nat} {A : Option Addr} {p : List UInt8} (hs : Src w h A p) : Rd w w.heap.size A p := by
  rcases hs with e | ⟨b, o, cs, T, e, hb, _, hc⟩
  · exact .inl e
  · exact .inr ⟨b, o, e, (Array.getElem?_eq_some_iff.1 hb).1, fun i x hx => by rw [cell_of_row w b _ cs T (0, 0) hb]; exact hc i x hx⟩
theorem Own.src {w : World} {base g c h : Nat} {bs : List UInt8} (ho : Own w base g c bs) (hg : g ≠ h) : Src w h (some ⟨g, 0, none⟩) bs := by
  rcases ho.2 with ⟨e, _⟩ | ⟨g', c', cur, e, hb, hh, h1, h2, h3, h4⟩
  · cases e
  · injection e with e1 e2 e3
    injection e1 with e1
    injection e1 with e1
    subst e1
    refine .inr ⟨g, 0, cur, _, rfl, hh, hg, fun i x hx => ?_⟩
    have hi : i < bs.length := (List.getElem?_eq_some_iff.1 hx).1
    have h5 : (bs.map bv)[i]? = some (bv x) := by simp [hx]
    have h6 : cur.toList.take (bs.length * 1) = bs.map bv := h4
    rw [Nat.mul_one] at h6
    rw [← h6, List.getElem?_take_of_lt hi, Array.getElem?_toList] at h5
    rw [Nat.zero_add]
    exact h5

theorem Own.caps {w : World} {base g c : Nat} {bs : List UInt8} (hown : Own w base g c bs) : bs.length ≤ c ∧ c ≤ 9223372036854775807 := by
  rcases hown.2 with ⟨e, _⟩ | ⟨g', c', cur, e, _, _, h1, h2, _⟩
  · cases e
  · injection e with _ _ e3
    subst e3
    exact ⟨h1, h2⟩

end Go.Proofs.YtemojkjcnkbpoaaGreatDoor

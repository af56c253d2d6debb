/-
  laws.joined of three lists, as the caller lays them. Condition: at most 2 * 10^14 bytes in all.
-/
import Derived.Test.YtmddbfcghddacaaDoorJoined
namespace Go.Proofs.YtmddbfcghddacaaDoor
open Go.RowKit

theorem Rd.up {w w' : World} {A : Option Addr} {bs : List UInt8} (h : Rd w w.heap.size A bs) (hb : Below w.heap.size w w') : Rd w' w'.heap.size A bs := (h.below hb).mono hb.size
theorem Rd.al {w : World} {A : Option Addr} {bs : List UInt8} (h : Rd w w.heap.size A bs) (o : Obj) : Rd (w.alloc o) (w.alloc o).heap.size A bs := (h.alloc (Nat.le_refl _) o).mono (by simp)
theorem Rd.new (w : World) (bs : List UInt8) : Rd (w.alloc (.cells (bs.map bv).toArray 5)) (w.alloc (.cells (bs.map bv).toArray 5)).heap.size (some ⟨w.heap.size, 0, none⟩) bs := Rd.lit w bs _ (by simp)

theorem joined3 (L : Nat) (A1 A2 A3 : Option Addr) (n1 c1 n2 c2 n3 c3 : Nat) (b1 b2 b3 : List UInt8) (w : World) (h1 : n1 = b1.length) (h2 : n2 = b2.length) (h3 : n3 = b3.length) (r1 : Rd w w.heap.size A1 b1) (r2 : Rd w w.heap.size A2 b2) (r3 : Rd w w.heap.size A3 b3) (hl : b1.length + b2.length + b3.length ≤ 200000000000000) (hL : L = w.heap.size) :
    Calls Tryd.prog 12 #[.slice (some ⟨L, 0, none⟩) 3 3] (w.alloc (.cells #[.slice A1 n1 c1, .slice A2 n2 c2, .slice A3 n3 c3] 22)) fun e w' =>
      ∃ g d, e = .returned (.slice (some ⟨g, 0, none⟩) (b1 ++ (b2 ++ b3)).length d) ∧ Own w' (w.heap.size + 1) g d (b1 ++ (b2 ++ b3)) ∧ Below w.heap.size w w' ∧ w.heap.size < w'.heap.size := by
  subst h1
  subst h2
  subst h3
  subst hL
  have hsz : (w.alloc (.cells #[.slice A1 b1.length c1, .slice A2 b2.length c2, .slice A3 b3.length c3] 22)).heap.size = w.heap.size + 1 := by simp
  have hf : flat [(A1, c1, b1), (A2, c2, b2), (A3, c3, b3)] = b1 ++ (b2 ++ b3) := by simp [flat]
  refine (joined_any w.heap.size 0 3 3 [(A1, c1, b1), (A2, c2, b2), (A3, c3, b3)] _ rfl (by omega) ?_ (by omega) ?_ (by rw [hf, List.length_append, List.length_append]; omega)).mono ?_
  · intro i e he
    rw [cell_of_row _ w.heap.size _ _ _ _ (heap_alloc_new w _)]
    match i, he with
    | 0, he => simp at he; subst he; rfl
    | 1, he => simp at he; subst he; rfl
    | 2, he => simp at he; subst he; rfl
  · intro i e he
    match i, he with
    | 0, he => simp at he; subst he; exact (r1.alloc (Nat.le_refl _) _).mono (by omega)
    | 1, he => simp at he; subst he; exact (r2.alloc (Nat.le_refl _) _).mono (by omega)
    | 2, he => simp at he; subst he; exact (r3.alloc (Nat.le_refl _) _).mono (by omega)
  · rw [hf, hsz]
    rintro e w' ⟨g, d, he, hown, hb⟩
    refine ⟨g, d, he, hown, ((Below.refl _ _).alloc (Nat.le_refl _) _).trans (hb.mono (by omega)), ?_⟩
    have := hb.size
    omega

end Go.Proofs.YtmddbfcghddacaaDoor

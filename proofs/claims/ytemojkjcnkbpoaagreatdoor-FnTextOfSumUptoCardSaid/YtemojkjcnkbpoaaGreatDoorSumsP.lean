/-
  Plain: the sums behind the pieces. No condition.
-/
import Derived.Test.YtemojkjcnkbpoaaGreatDoorPieces
namespace Go.Proofs.YtemojkjcnkbpoaaGreatDoor
open Go.RowKit

/-- the sums behind each piece, acc the bytes ahead -/
def sumsFrom (S : List UInt8 → List UInt8) (acc : List UInt8) : List (List UInt8) → List (List UInt8)
  | [] => []
  | p :: r => S (acc ++ p) :: sumsFrom S (acc ++ p) r

theorem pcs_len (bs : List UInt8) (zs : List Int) : (pcs bs zs).length = zs.length + 1 := by
  induction zs generalizing bs with
  | nil => rfl
  | cons z r ih => rw [pcs, List.length_cons, ih, List.length_cons]
theorem RdI.below' {w w' : World} {B B' : Nat} {A : Option Addr} {zs : List Int} (h : RdI w B A zs) (hb : Below B w w') (hB : B ≤ B') : RdI w' B' A zs := by
  refine ⟨h.1, ?_⟩
  rcases h.2 with e | ⟨b, off, e, hbB, hc⟩
  · exact .inl e
  · exact .inr ⟨b, off, e, by omega, fun i x hx => (hb.cell (p := ⟨b, off + i, none⟩) hbB).trans (hc i x hx)⟩
theorem OwnV.grown {T : TypeId} {w w' : World} {base g c x : Nat} {vs : List Value} (h : OwnV T w base g c vs) (hg : w.grownBy w' (some x)) (hx : g ≠ x) : OwnV T w' base g c vs := by
  refine ⟨h.1, ?_⟩
  rcases h.2 with ⟨e, h2⟩ | ⟨g', c', cur, e, hb', hh, hr⟩
  · exact .inl ⟨e, h2⟩
  · have e' := e
    injection e' with e1
    injection e1 with e1
    injection e1 with e1
    subst e1
    exact .inr ⟨g, c', cur, e, hb', (hg.block g (heap_lt hh) (fun e => hx (by injection e))).trans hh, hr⟩
theorem OwnV.one (T : TypeId) (w : World) (base : Nat) (v : Value) (hb : base ≤ w.heap.size) : OwnV T (w.alloc (.cells #[v] T)) base w.heap.size 1 [v] :=
  ⟨rfl, .inr ⟨w.heap.size, 1, #[v], rfl, hb, heap_alloc_new w _, Nat.le_refl _, by simp [maxLen], rfl, rfl⟩⟩
theorem Pieces.mono {w : World} {base base' : Nat} {vs : List Value} {ps : List (List UInt8)} (h : Pieces w base vs ps) (hb : base' ≤ base) : Pieces w base' vs ps :=
  ⟨h.1, fun i v p h1 h2 => (h.2 i v p h1 h2).mono hb⟩
theorem sumsFrom_step (S : List UInt8 → List UInt8) (acc p : List UInt8) (ps : List (List UInt8)) (i : Nat) (hp : ps[i]? = some p) : sumsFrom S acc (ps.drop i) = S (acc ++ p) :: sumsFrom S (acc ++ p) (ps.drop (i + 1)) := by
  obtain ⟨hl, he⟩ := List.getElem?_eq_some_iff.1 hp
  rw [List.drop_eq_getElem_cons hl, he]
  rfl

end Go.Proofs.YtemojkjcnkbpoaaGreatDoor

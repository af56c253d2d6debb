/-
  What a region with calls keeps: the blocks below a bound. For seats that do not build FnvKinds (which declares the same). No condition.
-/
import Derived.Test.YtaplmdbcjckbkaaGreatNum
import Derived.Deep.RegionHeld3
namespace Go.Proofs.YtaplmdbcjckbkaaGreat
open Go.RowKit

theorem wide_cells (S : Nat) : ∃ u v : Int, wv S = .agg #[.int .u64 u, .int .u64 v] := ⟨_, _, rfl⟩

/-- what a region with calls keeps: the blocks below B as they were in w -/
structure Kp (B : Nat) (w w' : World) : Prop where
  bel : Below B w w'
  le : B ≤ w'.heap.size
theorem Kp.step {B : Nat} {w w1 w2 : World} (hb : Below w1.heap.size w1 w2) (h : Kp B w w1) : Kp B w w2 := ⟨h.bel.trans (hb.mono h.le), Nat.le_trans h.le hb.size⟩
theorem Kp.drew {B : Nat} {w w1 : World} (h : Kp B w w1) : Kp B w w1.drew := ⟨h.bel.trans ((Below.refl _ _).drew), h.le⟩
theorem Kp.cell {B : Nat} {w w1 : World} (h : Kp B w w1) {p : Addr} (hp : p.block < B) {v : Value} (hv : w.cell? p = some v) : w1.cell? p = some v := (h.bel.cell hp).trans hv

theorem Kp.four {B : Nat} {w w1 : World} {p1 p2 p3 p4 : Addr} {v1 v2 v3 v4 : Value} (c1 : w.cell? p1 = some v1) (c2 : w.cell? p2 = some v2) (c3 : w.cell? p3 = some v3) (c4 : w.cell? p4 = some v4)
    (l1 : p1.block < B) (l2 : p2.block < B) (l3 : p3.block < B) (l4 : p4.block < B) (h : Kp B w w1) : (w1.cell? p1 = some v1 ∧ w1.cell? p2 = some v2 ∧ w1.cell? p3 = some v3 ∧ w1.cell? p4 = some v4) ∧ Kp B w w1 :=
  ⟨⟨h.cell l1 c1, h.cell l2 c2, h.cell l3 c3, h.cell l4 c4⟩, h⟩
theorem Kp.four_step {B : Nat} {w w1 w2 : World} {p1 p2 p3 p4 : Addr} {v1 v2 v3 v4 : Value} (l1 : p1.block < B) (l2 : p2.block < B) (l3 : p3.block < B) (l4 : p4.block < B) (hb : Below w1.heap.size w1 w2)
    (h : (w1.cell? p1 = some v1 ∧ w1.cell? p2 = some v2 ∧ w1.cell? p3 = some v3 ∧ w1.cell? p4 = some v4) ∧ Kp B w w1) :
    (w2.cell? p1 = some v1 ∧ w2.cell? p2 = some v2 ∧ w2.cell? p3 = some v3 ∧ w2.cell? p4 = some v4) ∧ Kp B w w2 := by
  obtain ⟨⟨a, b, c, d⟩, k⟩ := h
  exact ⟨⟨(hb.cell (Nat.lt_of_lt_of_le l1 k.le)).trans a, (hb.cell (Nat.lt_of_lt_of_le l2 k.le)).trans b, (hb.cell (Nat.lt_of_lt_of_le l3 k.le)).trans c, (hb.cell (Nat.lt_of_lt_of_le l4 k.le)).trans d⟩, Kp.step hb k⟩

theorem Kp.two {B : Nat} {w w1 : World} {p1 p2 : Addr} {v1 v2 : Value} (c1 : w.cell? p1 = some v1) (c2 : w.cell? p2 = some v2) (l1 : p1.block < B) (l2 : p2.block < B) (h : Kp B w w1) : (w1.cell? p1 = some v1 ∧ w1.cell? p2 = some v2) ∧ Kp B w w1 :=
  ⟨⟨h.cell l1 c1, h.cell l2 c2⟩, h⟩
theorem Kp.two_step {B : Nat} {w w1 w2 : World} {p1 p2 : Addr} {v1 v2 : Value} (l1 : p1.block < B) (l2 : p2.block < B) (hb : Below w1.heap.size w1 w2) (h : (w1.cell? p1 = some v1 ∧ w1.cell? p2 = some v2) ∧ Kp B w w1) :
    (w2.cell? p1 = some v1 ∧ w2.cell? p2 = some v2) ∧ Kp B w w2 := by
  obtain ⟨⟨a, b⟩, k⟩ := h
  exact ⟨⟨(hb.cell (Nat.lt_of_lt_of_le l1 k.le)).trans a, (hb.cell (Nat.lt_of_lt_of_le l2 k.le)).trans b⟩, Kp.step hb k⟩

end Go.Proofs.YtaplmdbcjckbkaaGreat

/-
  What a region with calls keeps: the blocks below a bound, and four cells. No condition.
-/
import Derived.Test.YtemojkjcnkbpoaaGreatDoorBase
import Derived.Deep.RegionHeld3
namespace Go.Proofs.YtemojkjcnkbpoaaGreatDoor
open Go.RowKit

/-- what a region with calls keeps: the blocks below B as they were in w -/
structure Kpa (B : Nat) (w w' : World) : Prop where
  bel : Below B w w'
  le : B ≤ w'.heap.size
theorem Kpa.step {B : Nat} {w w1 w2 : World} (hb : Below w1.heap.size w1 w2) (h : Kpa B w w1) : Kpa B w w2 := ⟨h.bel.trans (hb.mono h.le), Nat.le_trans h.le hb.size⟩
theorem Kpa.drew {B : Nat} {w w1 : World} (h : Kpa B w w1) : Kpa B w w1.drew := ⟨h.bel.trans ((Below.refl _ _).drew), h.le⟩
theorem Kpa.al {B : Nat} {w w1 : World} (h : Kpa B w w1) (o : Obj) : Kpa B w (w1.alloc o) := ⟨h.bel.alloc h.le _, Nat.le_trans h.le (by simp)⟩
theorem Kpa.dr {B : Nat} {w w1 : World} (h : Kpa B w w1) (n : Nat) : Kpa B w (w1.drewN n) := ⟨⟨h.bel.os, h.bel.tape, h.bel.output, h.bel.size, h.bel.block⟩, h.le⟩
theorem Kpa.cell {B : Nat} {w w1 : World} (h : Kpa B w w1) {p : Addr} (hp : p.block < B) {v : Value} (hv : w.cell? p = some v) : w1.cell? p = some v := (h.bel.cell hp).trans hv
theorem Kpa.four {B : Nat} {w w1 : World} {p1 p2 p3 p4 : Addr} {v1 v2 v3 v4 : Value} (c1 : w.cell? p1 = some v1) (c2 : w.cell? p2 = some v2) (c3 : w.cell? p3 = some v3) (c4 : w.cell? p4 = some v4)
    (l1 : p1.block < B) (l2 : p2.block < B) (l3 : p3.block < B) (l4 : p4.block < B) (h : Kpa B w w1) : (w1.cell? p1 = some v1 ∧ w1.cell? p2 = some v2 ∧ w1.cell? p3 = some v3 ∧ w1.cell? p4 = some v4) ∧ Kpa B w w1 :=
  ⟨⟨h.cell l1 c1, h.cell l2 c2, h.cell l3 c3, h.cell l4 c4⟩, h⟩

end Go.Proofs.YtemojkjcnkbpoaaGreatDoor

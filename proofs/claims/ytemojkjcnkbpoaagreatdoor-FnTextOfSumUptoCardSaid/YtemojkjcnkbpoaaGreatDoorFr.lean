/-
  A frame: no old block turned but those of M. No condition.
-/
import Derived.Test.YtemojkjcnkbpoaaGreatDoorRow
namespace Go.Proofs.YtemojkjcnkbpoaaGreatDoor
open Go.RowKit

/-- between w and w' no old block turned but those of M -/
structure Fr (M : Nat → Prop) (w w' : World) : Prop where
  os : w'.os = w.os
  tape : w'.tape = w.tape
  output : w'.output = w.output
  size : w.heap.size ≤ w'.heap.size
  block : ∀ k, k < w.heap.size → ¬ M k → w'.heap[k]? = w.heap[k]?
theorem Fr.refl (M : Nat → Prop) (w : World) : Fr M w w := ⟨rfl, rfl, rfl, Nat.le_refl _, fun _ _ _ => rfl⟩
theorem Fr.trans {M M' : Nat → Prop} {a b c : World} (h : Fr M a b) (k : Fr M' b c) (hs : ∀ i, i < a.heap.size → M' i → M i) : Fr M a c :=
  ⟨k.os.trans h.os, k.tape.trans h.tape, k.output.trans h.output, Nat.le_trans h.size k.size, fun i hi hm => (k.block i (Nat.lt_of_lt_of_le hi h.size) (fun hx => hm (hs i hi hx))).trans (h.block i hi hm)⟩
theorem Fr.mono {M M' : Nat → Prop} {a b : World} (h : Fr M a b) (hs : ∀ i, i < a.heap.size → M i → M' i) : Fr M' a b :=
  ⟨h.os, h.tape, h.output, h.size, fun i hi hm => h.block i hi (fun hx => hm (hs i hi hx))⟩
theorem Fr.setCell {M : Nat → Prop} {a w : World} (h : Fr M a w) {p : Addr} (hp : M p.block) (u : Value) : Fr M a (w.setCell p u) :=
  h.trans (M' := M) ⟨rfl, rfl, rfl, by simp [World.setCell], fun k _ hm => Below.heap_setCell _ _ _ _ (fun e => hm (e ▸ hp))⟩ (fun _ _ h => h)
theorem Fr.setRow {M : Nat → Prop} {a w : World} (h : Fr M a w) {g : Nat} (hp : M g) (cs : Array Value) : Fr M a (w.setRow g cs) :=
  h.trans (M' := M) ⟨rfl, rfl, rfl, by simp, fun k _ hm => heap_setRow_other w g k cs (fun e => hm (e ▸ hp))⟩ (fun _ _ h => h)
theorem Fr.alloc {M : Nat → Prop} {a w : World} (h : Fr M a w) (o : Obj) : Fr M a (w.alloc o) :=
  h.trans (M' := M) ⟨rfl, rfl, rfl, by simp, fun k hk _ => Below.heap_alloc _ _ _ hk⟩ (fun _ _ h => h)
theorem Fr.drew {M : Nat → Prop} {a w : World} (h : Fr M a w) : Fr M a w.drew := ⟨h.os, h.tape, h.output, h.size, h.block⟩
theorem Fr.undrew {M : Nat → Prop} {a w : World} (h : Fr M a.drew w) : Fr M a w := ⟨h.os, h.tape, h.output, h.size, h.block⟩
theorem Fr.below {M : Nat → Prop} {a w w' : World} (h : Fr M a w) (hb : Below w.heap.size w w') : Fr M a w' :=
  h.trans (M' := M) ⟨hb.os, hb.tape, hb.output, hb.size, fun k hk _ => hb.block k hk⟩ (fun _ _ h => h)
theorem Fr.toBelow {M : Nat → Prop} {a w : World} (h : Fr M a w) {B : Nat} (hB : B ≤ a.heap.size) (hm : ∀ k, k < B → ¬ M k) : Below B a w :=
  ⟨h.os, h.tape, h.output, h.size, fun k hk => h.block k (by omega) (hm k hk)⟩

end Go.Proofs.YtemojkjcnkbpoaaGreatDoor

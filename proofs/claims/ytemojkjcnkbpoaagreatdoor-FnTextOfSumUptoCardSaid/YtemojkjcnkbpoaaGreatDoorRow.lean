/-
  Words for a block whose cells are written one by one: the world stays 'w with block g holding cr'. No condition.
-/
import Derived.Test.YtemojkjcnkbpoaaGreatDoorBase
namespace Go.Proofs.YtemojkjcnkbpoaaGreatDoor
open Go.RowKit

theorem setRow_setCell (w : World) (g i : Nat) (cs cr : Array Value) (t : TypeId) (fr : Nat × Nat) (v : Value) (hg : w.heap[g]? = some (.cells cs t fr)) :
    (w.setRow g cr).setCell ⟨g, i, none⟩ v = w.setRow g (cr.setIfInBounds i v) := by
  unfold World.setRow World.setCell
  congr 1
  apply Array.ext_getElem?
  intro k
  simp only [Array.getElem?_modify]
  by_cases hk : g = k
  · subst hk
    simp [hg]
  · simp [hk]

theorem cell_setRow (w : World) (g i : Nat) (cs cr : Array Value) (t : TypeId) (fr : Nat × Nat) (hg : w.heap[g]? = some (.cells cs t fr)) : (w.setRow g cr).cell? ⟨g, i, none⟩ = cr[i]? :=
  cell_of_row _ g i cr t fr (setRow_heap w g cs cr t fr hg)

theorem heap_setRow_other (w : World) (g k : Nat) (cr : Array Value) (h : k ≠ g) : (w.setRow g cr).heap[k]? = w.heap[k]? := by
  simp only [World.setRow, Array.getElem?_modify]
  rw [if_neg (by omega)]

theorem cell_setRow_other (w : World) (g : Nat) (a : Addr) (cr : Array Value) (h : a.block ≠ g) : (w.setRow g cr).cell? a = w.cell? a :=
  World.cell?_of_block (heap_setRow_other w g a.block cr h)

theorem frozen_setRow (w : World) (g i : Nat) (cs cr : Array Value) (t : TypeId) (hg : w.heap[g]? = some (.cells cs t (0, 0))) : (w.setRow g cr).frozen? ⟨g, i, none⟩ = false :=
  frozen_of_row _ g i cr t (setRow_heap w g cs cr t (0, 0) hg)

theorem setRow_same (w : World) (g : Nat) (cs : Array Value) (t : TypeId) (fr : Nat × Nat) (hg : w.heap[g]? = some (.cells cs t fr)) : w.setRow g cs = w := setRow_self w g cs t fr hg

theorem setRow_setRow (w : World) (g : Nat) (a b : Array Value) : (w.setRow g a).setRow g b = w.setRow g b := by
  unfold World.setRow
  congr 1
  apply Array.ext_getElem?
  intro k
  simp only [Array.getElem?_modify]
  by_cases hk : g = k
  · subst hk
    cases h : w.heap[g]? with
    | none => simp
    | some o => cases o <;> simp
  · simp [hk]

/-- 'cr' became 'cr'' by writes of bytes to the places from lo to hi alone -/
structure Upd (lo hi : Nat) (cr cr' : Array Value) : Prop where
  size : cr'.size = cr.size
  out : ∀ i, i < lo ∨ hi ≤ i → cr'[i]? = cr[i]?
  u8 : ∀ i, lo ≤ i → i < hi → (∃ z : Int, cr[i]? = some (.int .u8 z)) → ∃ z : Int, cr'[i]? = some (.int .u8 z)

theorem Upd.refl (lo hi : Nat) (cr : Array Value) : Upd lo hi cr cr := ⟨rfl, fun _ _ => rfl, fun _ _ _ h => h⟩
theorem Upd.trans {lo hi : Nat} {a b c : Array Value} (h : Upd lo hi a b) (k : Upd lo hi b c) : Upd lo hi a c :=
  ⟨k.size.trans h.size, fun i hi => (k.out i hi).trans (h.out i hi), fun i h1 h2 h3 => k.u8 i h1 h2 (h.u8 i h1 h2 h3)⟩
theorem Upd.wider {lo hi lo' hi' : Nat} {a b : Array Value} (h : Upd lo hi a b) (h1 : lo' ≤ lo) (h2 : hi ≤ hi') : Upd lo' hi' a b :=
  ⟨h.size, fun i hh => h.out i (by omega), fun i h3 h4 h5 => by
    by_cases hi' : lo ≤ i ∧ i < hi
    · exact h.u8 i hi'.1 hi'.2 h5
    · rw [h.out i (by omega)]; exact h5⟩
theorem Upd.put {lo hi : Nat} {a b : Array Value} (h : Upd lo hi a b) (i : Nat) (z : Int) (h1 : lo ≤ i) (h2 : i < hi) : Upd lo hi a (b.setIfInBounds i (.int .u8 z)) := by
  refine h.trans ⟨by simp, fun k hk => ?_, fun k _ _ hk => ?_⟩
  · rw [Array.getElem?_setIfInBounds, if_neg (by omega)]
  · rw [Array.getElem?_setIfInBounds]
    obtain ⟨y, hy⟩ := hk
    split
    · rw [if_pos (by subst_vars; exact (Array.getElem?_eq_some_iff.1 hy).1)]
      exact ⟨_, rfl⟩
    · exact ⟨y, hy⟩

theorem wpList_run_build1 {P : Program} {w : World} {ops : Array Oper} {rest : List Oper} {o : Oper} {a : Act} {Q : Exit → Act → World → Prop} (hgd : o.guard = none) (t : TypeId) (i : Nat) (x : Operand) (ho : o.op = .build t #[(i, x)]) (v0 v : Value) (hx : a.eval x = v0)
    (hrun : (Instr.build t #[(i, v0)]).run P w = .ok v w) (h : wpList P ops Q rest (a.put o.dst v) w) : wpList P ops Q (o :: rest) a w := by
  refine wpList_plain hgd fun _ hK => ?_
  unfold Oper.wp execOp
  simp only [ho, List.map_toArray, List.map_cons, List.map_nil, hx, Sem.run_bind, hrun, Result.andThen_ok, Sem.run_pure]
  exact hK _ _ h

end Go.Proofs.YtemojkjcnkbpoaaGreatDoor

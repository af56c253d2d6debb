/-
  Rows of one-cell values of the call's own (a row of slices, a row of numbers), and an append of one value. Condition: at most 2000000 values.
-/
import Derived.Test.YtemojkjcnkbpoaaGreatDoorBase
namespace Go.Proofs.YtemojkjcnkbpoaaGreatDoor
open Go.RowKit

/-- a row of values of type T that the call itself made -/
abbrev OwnV (T : TypeId) (w : World) (base g c : Nat) (vs : List Value) : Prop :=
  w.ownsRow base T 1 (.slice (some ⟨g, 0, none⟩) vs.length c) vs.length vs

theorem OwnV.lt' {T : TypeId} {w : World} {base g c : Nat} {vs : List Value} (h : OwnV T w base g c vs) : base ≤ g ∧ g < w.heap.size := h.lt g rfl
theorem OwnV.cell {T : TypeId} {w : World} {base g c : Nat} {vs : List Value} (h : OwnV T w base g c vs) {i : Nat} {v : Value} (hv : vs[i]? = some v) : w.cell? ⟨g, i, none⟩ = some v := by
  have := World.ownsRow.cells h (g := g) rfl i v hv
  rw [addr_add, Nat.zero_add] at this
  exact this
theorem OwnV.empty (T : TypeId) (w : World) (base : Nat) (hb : base ≤ w.heap.size) : OwnV T (w.alloc (.cells #[] T)) base w.heap.size 0 [] :=
  World.ownsRow_made (size := 1) w #[] 0 hb (by simp [maxLen]) (by simp)

theorem run_append_one {P : Program} {T : TypeId} {z : Value} {k : Nat} (hinfo : (P.info? T).map (fun i => (i.zero, i.size, i.bytes)) = some (some z, 1, k)) (hz : z.cells.size = 1) (hk : k ≤ 24) (w : World) (t ty : TypeId) (ht : P.underlying t = some (.slice T)) (base g c : Nat) (vs : List Value) (hown : OwnV T w base g c vs)
    (b d : Nat) (v : Value) (hv : w.cell? ⟨b, 0, none⟩ = some v) (h1 : v.oneCell' = true) (hl : vs.length ≤ 2000000) (hbase : base ≤ w.heap.size) :
    ∃ g' c' w', (Builtin.append_ #[t, t] ty #[.slice (some ⟨g, 0, none⟩) vs.length c, .slice (some ⟨b, 0, none⟩) 1 d]).run P w = .ok (.slice (some ⟨g', 0, none⟩) (vs.length + 1) c') w' ∧
      OwnV T w' base g' c' (vs ++ [v]) ∧ w.grownBy w' (some g) ∧ (g' = g ∨ g' = w.heap.size) := by
  obtain ⟨i0, hi, hz0, hz1, hz2⟩ := info_parts hinfo
  have hb : (vs.length + 1) * k ≤ 140737488355328 := Nat.le_trans (Nat.mul_le_mul_left _ hk) (by omega)
  obtain ⟨v', w', hrun, hown', hgr, hnil, hat⟩ := run_append_own_at (P := P) w base t ty T i0 z 1 k ht hi hz0 hz1 hz2 hz (by decide) _ _ _ hown ⟨b, 0, none⟩ 1 d [v] (by simp)
    (fun j u hu => by
      cases j with
      | zero => simp at hu; subst hu; rw [addr_add]; exact hv
      | succ j => simp at hu)
    (fun u hu => by simp at hu; subst hu; exact h1)
    (by simp only [maxLen]; omega) hb hbase
  have hne : v' ≠ .slice none 0 0 := fun e => by have := (hnil.1 e).1; simp at this
  rcases hown'.2 with ⟨h, _⟩ | ⟨g', c', cur, hv', hb', hh, h1', h2, h3, h4⟩
  · exact absurd h hne
  · subst hv'
    refine ⟨g', c', w', hrun, ?_, hgr, ?_⟩
    rotate_left
    · rcases hat with e | e
      · left; injection e
      · right; injection e
    unfold OwnV
    rw [List.length_append, List.length_singleton]
    exact hown'

theorem wpList_append_one {P : Program} {T : TypeId} {z : Value} {k : Nat} (hinfo : (P.info? T).map (fun i => (i.zero, i.size, i.bytes)) = some (some z, 1, k)) (hz : z.cells.size = 1) (hk : k ≤ 24) {w : World} {ops : Array Oper} {rest : List Oper} {o : Oper} {a : Act} {Q : Exit → Act → World → Prop} (hgd : o.guard = none) (s x : Operand) (t : TypeId)
    (ho : o.op = .call { callee := .builtin .append, args := #[s, x], argTypes := #[t, t] }) (ht : P.underlying t = some (.slice T))
    (base g c : Nat) (vs : List Value) (n : Nat) (hs : a.eval s = .slice (some ⟨g, 0, none⟩) n c) (hn : n = vs.length) (hown : OwnV T w base g c vs)
    (b d : Nat) (v : Value) (hx : a.eval x = .slice (some ⟨b, 0, none⟩) 1 d) (hv : w.cell? ⟨b, 0, none⟩ = some v) (h1 : v.oneCell' = true) (hl : vs.length ≤ 2000000) (hbase : base ≤ w.heap.size)
    (h : ∀ g' c' w', OwnV T w' base g' c' (vs ++ [v]) → w.grownBy w' (some g) → (g' = g ∨ g' = w.heap.size) → wpList P ops Q rest (a.put o.dst (.slice (some ⟨g', 0, none⟩) (vs.length + 1) c')) w') : wpList P ops Q (o :: rest) a w := by
  subst hn
  refine wpList_plain hgd fun _ hK => ?_
  obtain ⟨g', c', w', hrun, h2, h3, h4⟩ := run_append_one hinfo hz hk w t o.type ht base g c vs hown b d v hv h1 hl hbase
  unfold Oper.wp execOp
  simp only [ho, resolve, invoke, builtin, Sem.run_bind, Sem.run_pure, Result.andThen_ok, List.map_toArray, List.map_cons, List.map_nil, hs, hx, hrun]
  exact hK _ _ (h g' c' w' h2 h3 h4)

theorem infoInt : (Tryz.prog.info? 3).map (fun i => (i.zero, i.size, i.bytes)) = some (some (.int .i64 0), 1, 8) := by kernel_rfl
theorem infoRow : (Tryz.prog.info? 22).map (fun i => (i.zero, i.size, i.bytes)) = some (some (.slice none 0 0), 1, 24) := by kernel_rfl

end Go.Proofs.YtemojkjcnkbpoaaGreatDoor

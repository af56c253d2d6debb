/-
  'append(v, s...)' on bytes, s a string: the new row and where it lies. Condition: at most 10^14 bytes.
-/
import Derived.Test.YtemojkjcnkbpoaaGreatBase
import Derived.Lib.AppendStr
namespace Go.Proofs.YtemojkjcnkbpoaaGreat
open Go.RowKit

theorem strCells_bv (s : ByteArray) : Lib.strCells s = s.data.toList.map bv := rfl

theorem run_append_str_at {P : Program} (hinfo : (P.info? 5).map (fun i => (i.zero, i.size, i.bytes)) = some (some (.int .u8 0), 1, 1)) (w : World) (t u ty : TypeId) (ht : P.underlying t = some (.slice 5)) (hu : P.underlying u = some .string) (base g c : Nat) (xs : List UInt8) (hown : Own w base g c xs)
    (s : ByteArray) (hl : xs.length + s.size ≤ 100000000000000) (hbase : base ≤ w.heap.size) :
    ∃ g' c' w', (Builtin.append_ #[t, u] ty #[.slice (some ⟨g, 0, none⟩) xs.length c, .string s]).run P w = .ok (.slice (some ⟨g', 0, none⟩) (xs ++ s.data.toList).length c') w' ∧
      Own w' base g' c' (xs ++ s.data.toList) ∧ w.grownBy w' (some g) ∧ (g' = g ∨ g' = w.heap.size) := by
  obtain ⟨i0, hi, hz0, hz1, hz2⟩ := info_parts hinfo
  have hss : s.data.toList.length = s.size := by rw [Array.length_toList]; rfl
  obtain ⟨v', w', hrun, hown', hgr, hnil⟩ := Lib.run_append_own_string (P := P) w base t u ty 5 i0 ht hu hi hz0 hz1 hz2 _ _ _ hown s (by simp only [maxLen]; omega) (by omega) hbase
  have hne : v' ≠ .slice none 0 0 := fun e => by have := (hnil.1 e).1; simp at this
  rcases hown'.2 with ⟨h, _⟩ | ⟨g', c', cur, hv, hb, hh, h1, h2, h3, h4⟩
  · exact absurd h hne
  · subst hv
    refine ⟨g', c', w', ?_, ?_, hgr, ?_⟩
    · rw [hrun, List.length_append, hss]
    · unfold Own
      rw [List.length_append, hss, List.map_append, ← strCells_bv]
      exact hown'
    · rcases hown.2 with ⟨h, _⟩ | ⟨g2, cap, cur2, e2, _, hg2, hnc, hcm, hcs, _⟩
      · cases h
      · injection e2 with e21 e22 e23
        injection e21 with e21
        injection e21 with e21
        subst e21 e23
        by_cases hroom : xs.length + s.size ≤ c
        · have hr := Lib.run_append_room_string (P := P) w t u ty 5 i0 ht hu hi hz1 g xs.length c cur2 hg2 s hroom (by omega)
          rw [hrun] at hr
          injection hr with hr
          injection hr with hr
          injection hr with hr
          injection hr with hr
          exact .inl hr
        · have hr := Lib.run_append_grow_string (P := P) w t u ty 5 i0 (.int .u8 0) ht hu hi hz0 ⟨g, 0, none⟩ xs.length c (xs.map bv) (by rw [hz1]; simp) (World.ownsRow.cells hown (g := g) rfl) s (by omega) (by omega) (by rw [hz2]; exact growslice_fits (by omega) (by omega))
          rw [hrun] at hr
          injection hr with hr
          injection hr with hr
          injection hr with hr
          injection hr with hr
          exact .inr hr

theorem wpList_append_str_at {w : World} {ops : Array Oper} {rest : List Oper} {o : Oper} {a : Act} {Q : Exit → Act → World → Prop} (hgd : o.guard = none) (s x : Operand) (t u : TypeId)
    (ho : o.op = .call { callee := .builtin .append, args := #[s, x], argTypes := #[t, u] }) (ht : Tryz.prog.underlying t = some (.slice 5)) (hu : Tryz.prog.underlying u = some .string)
    (base g c : Nat) (xs : List UInt8) (n : Nat) (hs : a.eval s = .slice (some ⟨g, 0, none⟩) n c) (hn : n = xs.length) (hown : Own w base g c xs)
    (b : ByteArray) (hx : a.eval x = .string b) (hl : xs.length + b.size ≤ 100000000000000) (hbase : base ≤ w.heap.size)
    (h : ∀ g' c' w', Own w' base g' c' (xs ++ b.data.toList) → w.grownBy w' (some g) → (g' = g ∨ g' = w.heap.size) → wpList Tryz.prog ops Q rest (a.put o.dst (.slice (some ⟨g', 0, none⟩) (xs ++ b.data.toList).length c')) w') : wpList Tryz.prog ops Q (o :: rest) a w := by
  subst hn
  refine wpList_plain hgd fun _ hK => ?_
  obtain ⟨g', c', w', hrun, h2, h3, h4⟩ := run_append_str_at info5 w t u o.type ht hu base g c xs hown b hl hbase
  unfold Oper.wp execOp
  simp only [ho, resolve, invoke, builtin, Sem.run_bind, Sem.run_pure, Result.andThen_ok, List.map_toArray, List.map_cons, List.map_nil, hs, hx, hrun]
  exact hK _ _ (h g' c' w' h2 h3 h4)

end Go.Proofs.YtemojkjcnkbpoaaGreat

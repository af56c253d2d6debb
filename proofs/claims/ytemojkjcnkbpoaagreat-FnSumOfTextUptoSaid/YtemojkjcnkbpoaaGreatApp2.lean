/-
  'append(v, src...)' on bytes, and where the new row lies. Condition: at most 2^47 bytes.
-/
import Derived.Test.YtemojkjcnkbpoaaGreatBase
namespace Go.Proofs.YtemojkjcnkbpoaaGreat
open Go.RowKit

theorem run_append_bytes_at {P : Program} (hinfo : (P.info? 5).map (fun i => (i.zero, i.size, i.bytes)) = some (some (.int .u8 0), 1, 1)) (w : World) (t ty : TypeId) (ht : P.underlying t = some (.slice 5)) (base g c : Nat) (xs bs : List UInt8) (hown : Own w base g c xs)
    (B : Nat) (A : Option Addr) (d : Nat) (hr : Rd w B A bs) (hl : xs.length + bs.length ≤ 140737488355328) (hbase : base ≤ w.heap.size) :
    ∃ g' c' w', (Builtin.append_ #[t, t] ty #[.slice (some ⟨g, 0, none⟩) xs.length c, .slice A bs.length d]).run P w = .ok (.slice (some ⟨g', 0, none⟩) (xs ++ bs).length c') w' ∧
      Own w' base g' c' (xs ++ bs) ∧ w.grownBy w' (some g) ∧ (g' = g ∨ g' = w.heap.size) := by
  obtain ⟨i0, hi, hz0, hz1, hz2⟩ := info_parts hinfo
  have key : ∀ ad : Addr, A = some ad → (∀ j u, (bs.map bv)[j]? = some u → w.cell? (ad.add j) = some u) →
      ∃ g' c' w', (Builtin.append_ #[t, t] ty #[.slice (some ⟨g, 0, none⟩) xs.length c, .slice A bs.length d]).run P w = .ok (.slice (some ⟨g', 0, none⟩) (xs ++ bs).length c') w' ∧
      Own w' base g' c' (xs ++ bs) ∧ w.grownBy w' (some g) ∧ (g' = g ∨ g' = w.heap.size) := by
    intro ad hA hc
    subst hA
    obtain ⟨v', w', hrun, hown', hgr, hnil, hat⟩ := run_append_own_at (P := P) w base t ty 5 i0 (.int .u8 0) 1 1 ht hi hz0 hz1 hz2 rfl (by decide) _ _ _ hown ad bs.length d (bs.map bv) (by simp) hc (bv_one bs)
      (by simp only [maxLen]; omega) (by omega) hbase
    have hne : v' ≠ .slice none 0 0 := fun e => by have := (hnil.1 e).1; simp at this
    rcases hown'.2 with ⟨h, _⟩ | ⟨g', c', cur, hv, hb, hh, h1, h2, h3, h4⟩
    · exact absurd h hne
    · subst hv
      refine ⟨g', c', w', ?_, ?_, hgr, ?_⟩
      · rw [hrun, List.length_append]
      · unfold Own
        rw [List.length_append, List.map_append]
        exact hown'
      · rcases hat with e | e
        · left; injection e
        · right; injection e
  rcases hr with h | ⟨b, off, hA, _, hc⟩
  · subst h
    rcases A with _ | ad
    · refine ⟨g, c, w, ?_, by simpa using hown, World.grownBy.refl w _, .inl rfl⟩
      rcases hown.2 with ⟨h, _⟩ | ⟨g', c', cur, hv, hb, hh, h1, _⟩
      · cases h
      · injection hv with e1 e2 e3
        subst e3
        simp [Builtin.append_, run_underlying ht, sizeOf, typeInfo, hi, Builtin.lenOf, Builtin.firstCells, h1, storeCells]
    · exact key ad rfl (by simp)
  · refine key _ hA fun j u hu => ?_
    rw [addr_add]
    simp only [List.getElem?_map, Option.map_eq_some_iff] at hu
    obtain ⟨x, hx, rfl⟩ := hu
    exact hc j x hx

theorem wpList_append_bytes_at {w : World} {ops : Array Oper} {rest : List Oper} {o : Oper} {a : Act} {Q : Exit → Act → World → Prop} (hgd : o.guard = none) (s x : Operand) (t : TypeId)
    (ho : o.op = .call { callee := .builtin .append, args := #[s, x], argTypes := #[t, t] }) (ht : Tryz.prog.underlying t = some (.slice 5))
    (base g c : Nat) (xs bs : List UInt8) (n m : Nat) (hs : a.eval s = .slice (some ⟨g, 0, none⟩) n c) (hn : n = xs.length) (hown : Own w base g c xs)
    (B : Nat) (A : Option Addr) (d : Nat) (hx : a.eval x = .slice A m d) (hm : m = bs.length) (hr : Rd w B A bs) (hl : xs.length + bs.length ≤ 140737488355328) (hbase : base ≤ w.heap.size)
    (h : ∀ g' c' w', Own w' base g' c' (xs ++ bs) → w.grownBy w' (some g) → (g' = g ∨ g' = w.heap.size) → wpList Tryz.prog ops Q rest (a.put o.dst (.slice (some ⟨g', 0, none⟩) (xs ++ bs).length c')) w') : wpList Tryz.prog ops Q (o :: rest) a w := by
  subst hn
  subst hm
  refine wpList_plain hgd fun _ hK => ?_
  obtain ⟨g', c', w', hrun, h2, h3, h4⟩ := run_append_bytes_at info5 w t o.type ht base g c xs bs hown B A d hr hl hbase
  unfold Oper.wp execOp
  simp only [ho, resolve, invoke, builtin, Sem.run_bind, Sem.run_pure, Result.andThen_ok, List.map_toArray, List.map_cons, List.map_nil, hs, hx, hrun]
  exact hK _ _ (h g' c' w' h2 h3 h4)

theorem Own.grown {w w' : World} {base g c x : Nat} {bs : List UInt8} (h : Own w base g c bs) (hg : w.grownBy w' (some x)) (hx : g ≠ x) : Own w' base g c bs := by
  refine ⟨h.1, ?_⟩
  rcases h.2 with ⟨e, h2⟩ | ⟨g', c', cur, e, hb', hh, hr⟩
  · exact .inl ⟨e, h2⟩
  · have e' := e
    injection e' with e1
    injection e1 with e1
    injection e1 with e1
    subst e1
    exact .inr ⟨g, c', cur, e, hb', (hg.block g (Array.getElem?_eq_some_iff.1 hh).1 (fun e => hx (by injection e))).trans hh, hr⟩

end Go.Proofs.YtemojkjcnkbpoaaGreat

/-
  'append(nil, src...)' on bytes, where src is not empty: a new row. No condition but the size.
-/
import Derived.Test.YtemojkjcnkbpoaaGreatDoorBase
namespace Go.Proofs.YtemojkjcnkbpoaaGreatDoor
open Go.RowKit

theorem run_append_nil {P : Program} (hinfo : (P.info? 5).map (fun i => (i.zero, i.size, i.bytes)) = some (some (.int .u8 0), 1, 1)) (w : World) (t ty : TypeId) (ht : P.underlying t = some (.slice 5)) (base : Nat) (bs : List UInt8)
    (B : Nat) (A : Option Addr) (d : Nat) (hr : Rd w B A bs) (hne : bs ≠ []) (hl : bs.length ≤ 200000000000000) (hbase : base ≤ w.heap.size) :
    ∃ g' c' w', (Builtin.append_ #[t, t] ty #[.slice none 0 0, .slice A bs.length d]).run P w = .ok (.slice (some ⟨g', 0, none⟩) bs.length c') w' ∧
      Own w' base g' c' bs ∧ w.grownBy w' none := by
  obtain ⟨i0, hi, hz0, hz1, hz2⟩ := info_parts hinfo
  rcases hr with h | ⟨b, off, rfl, _, hc⟩
  · exact absurd h hne
  obtain ⟨v', w', hrun, hown', hgr, hnil⟩ := run_append_own_wide (P := P) w base t ty 5 i0 (.int .u8 0) 1 1 ht hi hz0 hz1 hz2 rfl (by decide) _ _ _ (World.ownsRow_nil w base 5 1) ⟨b, off, none⟩ bs.length d (bs.map bv) (by simp)
    (fun j u hu => by
      rw [addr_add]
      simp only [List.getElem?_map, Option.map_eq_some_iff] at hu
      obtain ⟨x, hx, rfl⟩ := hu
      exact hc j x hx) (bv_one bs) (by simp only [maxLen]; omega) (by omega) hbase
  have hpos := List.length_pos_iff.2 hne
  have hne' : v' ≠ .slice none 0 0 := fun e => by have := (hnil.1 e).2; omega
  rw [Nat.zero_add] at hown'
  rcases hown'.2 with ⟨h, _⟩ | ⟨g', c', cur, hv, _⟩
  · exact absurd h hne'
  · subst hv
    exact ⟨g', c', w', hrun, by simpa using hown', hgr⟩

theorem wpList_append_nil_bytes {w : World} {ops : Array Oper} {rest : List Oper} {o : Oper} {a : Act} {Q : Exit → Act → World → Prop} (hgd : o.guard = none) (s x : Operand) (t : TypeId)
    (ho : o.op = .call { callee := .builtin .append, args := #[s, x], argTypes := #[t, t] }) (ht : Tryz.prog.underlying t = some (.slice 5))
    (base : Nat) (bs : List UInt8) (m : Nat) (hs : a.eval s = .slice none 0 0) (B : Nat) (A : Option Addr) (d : Nat) (hx : a.eval x = .slice A m d) (hm : m = bs.length) (hr : Rd w B A bs) (hne : bs ≠ []) (hl : bs.length ≤ 200000000000000) (hbase : base ≤ w.heap.size)
    (h : ∀ g' c' w', Own w' base g' c' bs → w.grownBy w' none → wpList Tryz.prog ops Q rest (a.put o.dst (.slice (some ⟨g', 0, none⟩) bs.length c')) w') : wpList Tryz.prog ops Q (o :: rest) a w := by
  subst hm
  refine wpList_plain hgd fun _ hK => ?_
  obtain ⟨g', c', w', hrun, h2, h3⟩ := run_append_nil info5 w t o.type ht base bs B A d hr hne hl hbase
  unfold Oper.wp execOp
  simp only [ho, resolve, invoke, builtin, Sem.run_bind, Sem.run_pure, Result.andThen_ok, List.map_toArray, List.map_cons, List.map_nil, hs, hx, hrun]
  exact hK _ _ (h g' c' w' h2 h3)

/-- a new block of bytes, read at once -/
theorem Rd.lit (w : World) (bs : List UInt8) (B : Nat) (hB : w.heap.size < B) : Rd (w.alloc (.cells (bs.map bv).toArray 5)) B (some ⟨w.heap.size, 0, none⟩) bs := by
  refine .inr ⟨w.heap.size, 0, rfl, hB, fun i x hx => ?_⟩
  rw [cell_of_row _ w.heap.size _ _ _ _ (heap_alloc_new w _)]
  simp [hx, bv]

end Go.Proofs.YtemojkjcnkbpoaaGreatDoor

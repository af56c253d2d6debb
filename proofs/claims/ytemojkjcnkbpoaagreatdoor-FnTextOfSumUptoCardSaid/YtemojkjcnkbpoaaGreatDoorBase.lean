/-
  Words for bytes in memory: a slice of bytes that reads as a list (nil let in), a row of bytes of the call's own, and an append whose source is such a slice. No condition.
-/
import Derived.Test.YtemojkjcnkbpoaaGreatDoorRows
import Derived.WalkKit
import Derived.WalkSpells
import Derived.WalkLawsBesides
import Derived.Maps.AppendAt
import Derived.Deep.AppendLies
import Derived.Deep.DeepAppendWide
import Derived.Deep.OwnRows
import Derived.Lib.Hide
namespace Go.Proofs.YtemojkjcnkbpoaaGreatDoor
open Go.RowKit

/-- a byte as a cell -/
def bv (b : UInt8) : Value := .int .u8 (b.toNat : Int)

theorem bv_one (bs : List UInt8) : ∀ u ∈ bs.map bv, u.oneCell' = true := by
  intro u hu
  obtain ⟨b, _, rfl⟩ := List.mem_map.1 hu
  rfl

/-- the slice at A (its length is bs.length) reads as bs; it lies below block B -/
def Rd (w : World) (B : Nat) (A : Option Addr) (bs : List UInt8) : Prop :=
  bs = [] ∨ ∃ b off, A = some ⟨b, off, none⟩ ∧ b < B ∧ ∀ i x, bs[i]? = some x → w.cell? ⟨b, off + i, none⟩ = some (.int .u8 (x.toNat : Int))

theorem addr_add (b off j : Nat) : (⟨b, off, none⟩ : Addr).add j = ⟨b, off + j, none⟩ := by unfold Addr.add; split <;> simp_all

theorem Rd.nil (w : World) (B : Nat) (A : Option Addr) : Rd w B A [] := .inl rfl

theorem Rd.keep {w w' : World} {B : Nat} {A : Option Addr} {bs : List UInt8} (h : Rd w B A bs) (hk : ∀ p : Addr, p.block < B → w'.cell? p = w.cell? p) : Rd w' B A bs := by
  rcases h with h | ⟨b, off, rfl, hb, hc⟩
  · exact .inl h
  · exact .inr ⟨b, off, rfl, hb, fun i x hx => (hk _ hb).trans (hc i x hx)⟩

theorem Rd.below {w w' : World} {B : Nat} {A : Option Addr} {bs : List UInt8} (h : Rd w B A bs) (hb : Below B w w') : Rd w' B A bs :=
  h.keep fun _ hp => hb.cell hp

theorem Rd.mono {w : World} {B B' : Nat} {A : Option Addr} {bs : List UInt8} (h : Rd w B A bs) (hB : B ≤ B') : Rd w B' A bs := by
  rcases h with h | ⟨b, off, rfl, hb, hc⟩
  · exact .inl h
  · exact .inr ⟨b, off, rfl, by omega, hc⟩

theorem Rd.drew {w : World} {B : Nat} {A : Option Addr} {bs : List UInt8} (h : Rd w B A bs) : Rd w.drew B A bs := h
theorem Rd.drewN {w : World} {B : Nat} {A : Option Addr} {bs : List UInt8} (h : Rd w B A bs) (n : Nat) : Rd (w.drewN n) B A bs := h
theorem Rd.alloc {w : World} {B : Nat} {A : Option Addr} {bs : List UInt8} (h : Rd w B A bs) (hB : B ≤ w.heap.size) (o : Obj) : Rd (w.alloc o) B A bs :=
  h.keep fun p hp => World.cell?_alloc_lt w o p (by omega)

/-- its first k bytes -/
theorem Rd.take {w : World} {B : Nat} {A : Option Addr} {bs : List UInt8} (h : Rd w B A bs) (k : Nat) : Rd w B A (bs.take k) := by
  rcases h with h | ⟨b, off, rfl, hb, hc⟩
  · exact .inl (by simp [h])
  · refine .inr ⟨b, off, rfl, hb, fun i x hx => hc i x ?_⟩
    rw [List.getElem?_take] at hx
    split at hx
    · exact hx
    · cases hx

/-- what stands behind its first k bytes, at whatever address the cut bears where nothing is left -/
theorem Rd.cut {w : World} {B : Nat} {A A' : Option Addr} {bs : List UInt8} {k : Nat} (h : Rd w B A bs) (hA : ∀ b off, A = some ⟨b, off, none⟩ → k < bs.length → A' = some ⟨b, off + k, none⟩) : Rd w B A' (bs.drop k) := by
  rcases h with h | ⟨b, off, rfl, hb, hc⟩
  · exact .inl (by simp [h])
  · by_cases hk : k < bs.length
    · refine .inr ⟨b, off + k, hA b off rfl hk, hb, fun i x hx => ?_⟩
      rw [List.getElem?_drop] at hx
      rw [Nat.add_assoc]
      exact hc _ x hx
    · exact .inl (List.drop_eq_nil_of_le (by omega))

/-- a row of bytes that the call itself made -/
abbrev Own (w : World) (base g c : Nat) (bs : List UInt8) : Prop :=
  w.ownsRow base 5 1 (.slice (some ⟨g, 0, none⟩) bs.length c) bs.length (bs.map bv)

theorem Own.rd {w : World} {base g c : Nat} {bs : List UInt8} (h : Own w base g c bs) : Rd w w.heap.size (some ⟨g, 0, none⟩) bs := by
  refine .inr ⟨g, 0, rfl, (h.lt g rfl).2, fun i x hx => ?_⟩
  have := World.ownsRow.cells h (g := g) rfl i (bv x) (by simp [hx])
  rw [addr_add] at this
  exact this

theorem Own.lt' {w : World} {base g c : Nat} {bs : List UInt8} (h : Own w base g c bs) : base ≤ g ∧ g < w.heap.size := h.lt g rfl

theorem info5 : (Tryz.prog.info? 5).map (fun i => (i.zero, i.size, i.bytes)) = some (some (.int .u8 0), 1, 1) := by kernel_rfl

/-- 'append(v, src...)' on bytes, v a row of the call's own that is not nil, src a slice that reads as bs: over any program -/
theorem run_append_bytes {P : Program} (hinfo : (P.info? 5).map (fun i => (i.zero, i.size, i.bytes)) = some (some (.int .u8 0), 1, 1)) (w : World) (t ty : TypeId) (ht : P.underlying t = some (.slice 5)) (base g c : Nat) (xs bs : List UInt8) (hown : Own w base g c xs)
    (B : Nat) (A : Option Addr) (d : Nat) (hr : Rd w B A bs) (hl : xs.length + bs.length ≤ 200000000000000) (hbase : base ≤ w.heap.size) :
    ∃ g' c' w', (Builtin.append_ #[t, t] ty #[.slice (some ⟨g, 0, none⟩) xs.length c, .slice A bs.length d]).run P w = .ok (.slice (some ⟨g', 0, none⟩) (xs ++ bs).length c') w' ∧
      Own w' base g' c' (xs ++ bs) ∧ w.grownBy w' (some g) := by
  obtain ⟨i0, hi, hz0, hz1, hz2⟩ := info_parts hinfo
  have key : ∀ ad : Addr, A = some ad → (∀ j u, (bs.map bv)[j]? = some u → w.cell? (ad.add j) = some u) →
      ∃ g' c' w', (Builtin.append_ #[t, t] ty #[.slice (some ⟨g, 0, none⟩) xs.length c, .slice A bs.length d]).run P w = .ok (.slice (some ⟨g', 0, none⟩) (xs ++ bs).length c') w' ∧
      Own w' base g' c' (xs ++ bs) ∧ w.grownBy w' (some g) := by
    intro ad hA hc
    subst hA
    obtain ⟨v', w', hrun, hown', hgr, hnil⟩ := run_append_own_wide (P := P) w base t ty 5 i0 (.int .u8 0) 1 1 ht hi hz0 hz1 hz2 rfl (by decide) _ _ _ hown ad bs.length d (bs.map bv) (by simp) hc (bv_one bs)
      (by simp only [maxLen]; omega) (by omega) hbase
    have hne : v' ≠ .slice none 0 0 := fun e => by have := (hnil.1 e).1; simp at this
    rcases hown'.2 with ⟨h, _⟩ | ⟨g', c', cur, hv, hb, hh, h1, h2, h3, h4⟩
    · exact absurd h hne
    · subst hv
      refine ⟨g', c', w', ?_, ?_, hgr⟩
      · rw [hrun, List.length_append]
      · unfold Own
        rw [List.length_append, List.map_append]
        exact hown'
  rcases hr with h | ⟨b, off, hA, _, hc⟩
  · subst h
    rcases A with _ | ad
    · refine ⟨g, c, w, ?_, by simpa using hown, World.grownBy.refl w _⟩
      rcases hown.2 with ⟨h, _⟩ | ⟨g', c', cur, hv, hb, hh, h1, _⟩
      · cases h
      · injection hv with e1 e2 e3
        subst e3
        simp [Builtin.append_, run_underlying ht, sizeOf, typeInfo, hi, Builtin.lenOf, Builtin.firstCells, h1, storeCells]
    · exact key ad rfl (by simp)
  · refine key _ hA fun j u hu => ?_
    rw [addr_add]
    simp only [List.getElem?_map, Option.map_eq_some_iff] at hu
    obtain ⟨x, hx, rfl⟩ := hu
    exact hc j x hx

theorem wpList_append_any_bytes {P : Program} (hinfo : (P.info? 5).map (fun i => (i.zero, i.size, i.bytes)) = some (some (.int .u8 0), 1, 1)) {w : World} {ops : Array Oper} {rest : List Oper} {o : Oper} {a : Act} {Q : Exit → Act → World → Prop} (hgd : o.guard = none) (s x : Operand) (t : TypeId)
    (ho : o.op = .call { callee := .builtin .append, args := #[s, x], argTypes := #[t, t] }) (ht : P.underlying t = some (.slice 5))
    (base g c : Nat) (xs bs : List UInt8) (n m : Nat) (hs : a.eval s = .slice (some ⟨g, 0, none⟩) n c) (hn : n = xs.length) (hown : Own w base g c xs)
    (B : Nat) (A : Option Addr) (d : Nat) (hx : a.eval x = .slice A m d) (hm : m = bs.length) (hr : Rd w B A bs) (hl : xs.length + bs.length ≤ 200000000000000) (hbase : base ≤ w.heap.size)
    (h : ∀ g' c' w', Own w' base g' c' (xs ++ bs) → w.grownBy w' (some g) → wpList P ops Q rest (a.put o.dst (.slice (some ⟨g', 0, none⟩) (xs ++ bs).length c')) w') : wpList P ops Q (o :: rest) a w := by
  subst hn
  subst hm
  refine wpList_plain hgd fun _ hK => ?_
  obtain ⟨g', c', w', hrun, h2, h3⟩ := run_append_bytes hinfo w t o.type ht base g c xs bs hown B A d hr hl hbase
  unfold Oper.wp execOp
  simp only [ho, resolve, invoke, builtin, Sem.run_bind, Sem.run_pure, Result.andThen_ok, List.map_toArray, List.map_cons, List.map_nil, hs, hx, hrun]
  exact hK _ _ (h g' c' w' h2 h3)

theorem wpList_append_bytes {w : World} {ops : Array Oper} {rest : List Oper} {o : Oper} {a : Act} {Q : Exit → Act → World → Prop} (hgd : o.guard = none) (s x : Operand) (t : TypeId)
    (ho : o.op = .call { callee := .builtin .append, args := #[s, x], argTypes := #[t, t] }) (ht : Tryz.prog.underlying t = some (.slice 5))
    (base g c : Nat) (xs bs : List UInt8) (n m : Nat) (hs : a.eval s = .slice (some ⟨g, 0, none⟩) n c) (hn : n = xs.length) (hown : Own w base g c xs)
    (B : Nat) (A : Option Addr) (d : Nat) (hx : a.eval x = .slice A m d) (hm : m = bs.length) (hr : Rd w B A bs) (hl : xs.length + bs.length ≤ 200000000000000) (hbase : base ≤ w.heap.size)
    (h : ∀ g' c' w', Own w' base g' c' (xs ++ bs) → w.grownBy w' (some g) → wpList Tryz.prog ops Q rest (a.put o.dst (.slice (some ⟨g', 0, none⟩) (xs ++ bs).length c')) w') : wpList Tryz.prog ops Q (o :: rest) a w :=
  wpList_append_any_bytes info5 hgd s x t ho ht base g c xs bs n m hs hn hown B A d hx hm hr hl hbase h

/-- '[]byte{}' -/
theorem Own.empty (w : World) (base : Nat) (hb : base ≤ w.heap.size) : Own (w.alloc (.cells #[] 5)) base w.heap.size 0 [] :=
  World.ownsRow_made (size := 1) w #[] 0 hb (by simp [maxLen]) (by simp)

end Go.Proofs.YtemojkjcnkbpoaaGreatDoor

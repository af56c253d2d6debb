/-
  Three rows of bytes that grow by one byte each, in any order: what holds between the steps. No condition but the size.
-/
import Derived.Test.YtciadiaodceijaaApp2
import Derived.Test.YtciadiaodceijaaAny
namespace Go.Proofs.Ytciadiaodceijaa
open Go.RowKit
set_option linter.unusedVariables false

/-- one row's chain: the byte is laid (bt), then appended (ft) -/
structure ChD where
  bt : Bool
  ft : Bool
  sb : Value
  sa : Value
  g : Nat
  c : Nat
  xs : List UInt8
  x : UInt8

/-- the chain stands so: its row is block r, its byte is laid in block k -/
structure Ch (base : Nat) (w : World) (D : ChD) (r k : Nat) : Prop where
  row : D.ft = false → r = D.g ∧ Own w base D.g D.c D.xs
  don : D.ft = true → ∃ c', D.sa = .slice (some ⟨r, 0, none⟩) (D.xs.length + 1) c' ∧ Own w base r c' (D.xs ++ [D.x])
  blt : D.bt = true → D.ft = false → D.sb = .slice (some ⟨k, 0, none⟩) 1 1 ∧ w.heap[k]? = some (.cells #[bv D.x] 5 (0, 0))

theorem Own.blk {w : World} {base g c : Nat} {bs : List UInt8} (h : Own w base g c bs) : ∃ cur, w.heap[g]? = some (.cells cur 5 (0, 0)) := by
  rcases h.2 with ⟨e, _⟩ | ⟨g', c', cur, e, hb, hh, _⟩
  · cases e
  · injection e with e1 e2 e3
    injection e1 with e1
    injection e1 with e1
    subst e1
    exact ⟨cur, hh⟩
theorem Own.kept {w w' : World} {base g c : Nat} {bs : List UInt8} (h : Own w base g c bs) (hk : w'.heap[g]? = w.heap[g]?) : Own w' base g c bs := by
  refine ⟨h.1, ?_⟩
  rcases h.2 with ⟨e, h2⟩ | ⟨g', c', cur, e, hb', hh, hr⟩
  · exact .inl ⟨e, h2⟩
  · have e' := e
    injection e' with e1
    injection e1 with e1
    injection e1 with e1
    subst e1
    exact .inr ⟨g, c', cur, e, hb', hk.trans hh, hr⟩
theorem Ch.lt {base : Nat} {w : World} {D : ChD} {r k : Nat} (h : Ch base w D r k) : r < w.heap.size := by
  cases hf : D.ft with
  | false => obtain ⟨e, ho⟩ := h.row hf; rw [e]; exact ho.lt'.2
  | true => obtain ⟨c', _, ho⟩ := h.don hf; exact ho.lt'.2
theorem Ch.kept {base : Nat} {w w' : World} {D : ChD} {r k : Nat} (h : Ch base w D r k) (hr : w'.heap[r]? = w.heap[r]?) (hk : D.bt = true → D.ft = false → w'.heap[k]? = w.heap[k]?) : Ch base w' D r k :=
  ⟨fun hf => by obtain ⟨e, ho⟩ := h.row hf; exact ⟨e, ho.kept (by rw [← e]; exact hr)⟩,
   fun hf => by obtain ⟨c', e, ho⟩ := h.don hf; exact ⟨c', e, ho.kept hr⟩,
   fun hb hf => by obtain ⟨e, hh⟩ := h.blt hb hf; exact ⟨e, (hk hb hf).trans hh⟩⟩

def Pend (D : ChD) : Prop := D.bt = true ∧ D.ft = false

structure Tri' (base : Nat) (w : World) (D E F : ChD) (r1 r2 r3 k1 k2 k3 : Nat) : Prop where
  c1 : Ch base w D r1 k1
  c2 : Ch base w E r2 k2
  c3 : Ch base w F r3 k3
  r12 : r1 ≠ r2
  r13 : r1 ≠ r3
  r23 : r2 ≠ r3
  k1r : Pend D → k1 ≠ r1 ∧ k1 ≠ r2 ∧ k1 ≠ r3
  k2r : Pend E → k2 ≠ r1 ∧ k2 ≠ r2 ∧ k2 ≠ r3
  k3r : Pend F → k3 ≠ r1 ∧ k3 ≠ r2 ∧ k3 ≠ r3
def Tri (base : Nat) (w : World) (D E F : ChD) : Prop := ∃ r1 r2 r3 k1 k2 k3, Tri' base w D E F r1 r2 r3 k1 k2 k3

theorem Tri.s12 {base : Nat} {w : World} {D E F : ChD} (h : Tri base w D E F) : Tri base w E D F := by
  obtain ⟨r1, r2, r3, k1, k2, k3, h⟩ := h
  exact ⟨r2, r1, r3, k2, k1, k3, h.c2, h.c1, h.c3, h.r12.symm, h.r23, h.r13, fun p => ⟨(h.k2r p).2.1, (h.k2r p).1, (h.k2r p).2.2⟩, fun p => ⟨(h.k1r p).2.1, (h.k1r p).1, (h.k1r p).2.2⟩, fun p => ⟨(h.k3r p).2.1, (h.k3r p).1, (h.k3r p).2.2⟩⟩
theorem Tri.s13 {base : Nat} {w : World} {D E F : ChD} (h : Tri base w D E F) : Tri base w F E D := by
  obtain ⟨r1, r2, r3, k1, k2, k3, h⟩ := h
  exact ⟨r3, r2, r1, k3, k2, k1, h.c3, h.c2, h.c1, h.r23.symm, h.r13.symm, h.r12.symm, fun p => ⟨(h.k3r p).2.2, (h.k3r p).2.1, (h.k3r p).1⟩, fun p => ⟨(h.k2r p).2.2, (h.k2r p).2.1, (h.k2r p).1⟩, fun p => ⟨(h.k1r p).2.2, (h.k1r p).2.1, (h.k1r p).1⟩⟩

/-- the first row's byte is laid -/
theorem Tri.lay {base : Nat} {w : World} {D E F : ChD} (h : Tri base w D E F) (hf : D.ft = false) : Tri base (w.alloc (.cells #[bv D.x] 5)) { D with bt := true, sb := .slice (some ⟨w.heap.size, 0, none⟩) 1 1 } E F := by
  obtain ⟨r1, r2, r3, k1, k2, k3, h⟩ := h
  have l1 := h.c1.lt
  have l2 := h.c2.lt
  have l3 := h.c3.lt
  have al : ∀ k, k < w.heap.size → (w.alloc (.cells #[bv D.x] 5)).heap[k]? = w.heap[k]? := fun k hk => Below.heap_alloc _ _ _ hk
  have kl : ∀ {D : ChD} {r k : Nat}, Ch base w D r k → D.bt = true → D.ft = false → k < w.heap.size := fun h hb hf => (Array.getElem?_eq_some_iff.1 (h.blt hb hf).2).1
  refine ⟨r1, r2, r3, w.heap.size, k2, k3, ⟨fun hf => ?_, fun hf' => ?_, fun _ _ => ⟨rfl, heap_alloc_new w _⟩⟩, h.c2.kept (al _ l2) (fun hb hf => al _ (kl h.c2 hb hf)), h.c3.kept (al _ l3) (fun hb hf => al _ (kl h.c3 hb hf)), h.r12, h.r13, h.r23, fun _ => ⟨by omega, by omega, by omega⟩, h.k2r, h.k3r⟩
  · obtain ⟨e, ho⟩ := h.c1.row hf; exact ⟨e, ho.kept (by rw [← e]; exact al _ l1)⟩
  · rw [show D.ft = true from hf'] at hf; cases hf

/-- the first row's byte is appended -/
theorem Tri.app {P : Program} (hinfo : (P.info? 5).map (fun i => (i.zero, i.size, i.bytes)) = some (some (.int .u8 0), 1, 1)) {base : Nat} {w : World} {D E F : ChD} (h : Tri base w D E F) (hb : D.bt = true) (hf : D.ft = false) (t ty : TypeId) (ht : P.underlying t = some (.slice 5)) (hl : D.xs.length ≤ 140737488355327) (hbase : base ≤ w.heap.size) :
    ∃ v w', (Builtin.append_ #[t, t] ty #[.slice (some ⟨D.g, 0, none⟩) D.xs.length D.c, D.sb]).run P w = .ok v w' ∧ Tri base w' { D with ft := true, sa := v } E F ∧ w.grownBy w' (some D.g) ∧ base ≤ D.g := by
  obtain ⟨r1, r2, r3, k1, k2, k3, h⟩ := h
  obtain ⟨e1, ho⟩ := h.c1.row hf
  obtain ⟨eb, hk⟩ := h.c1.blt hb hf
  subst e1
  have hkl := (Array.getElem?_eq_some_iff.1 hk).1
  have hrd : Rd w w.heap.size (some ⟨k1, 0, none⟩) [D.x] := by
    refine .inr ⟨k1, 0, rfl, hkl, fun i x hx => ?_⟩
    rw [cell_of_row w k1 _ _ _ _ hk, Nat.zero_add]
    match i, hx with
    | 0, hx => simp at hx; subst hx; rfl
  obtain ⟨g', c', w', hrun, ho', hg, hat⟩ := run_append_bytes_at hinfo w t ty ht base D.g D.c D.xs [D.x] ho w.heap.size (some ⟨k1, 0, none⟩) 1 hrd (by simp; omega) hbase
  have bl : ∀ k, k < w.heap.size → k ≠ D.g → w'.heap[k]? = w.heap[k]? := fun k hk hne => hg.block k hk (fun e => hne (by injection e))
  have l2 := h.c2.lt
  have l3 := h.c3.lt
  have kl : ∀ {D : ChD} {r k : Nat}, Ch base w D r k → D.bt = true → D.ft = false → k < w.heap.size := fun h hb hf => (Array.getElem?_eq_some_iff.1 (h.blt hb hf).2).1
  rw [eb]
  refine ⟨_, w', hrun, ⟨g', r2, r3, k1, k2, k3, ⟨(fun e => by cases e), fun _ => ⟨c', by rw [List.length_append, List.length_singleton], ho'⟩, (fun _ e => by cases e)⟩, h.c2.kept (bl _ l2 h.r12.symm) (fun hb hf => bl _ (kl h.c2 hb hf) (h.k2r ⟨hb, hf⟩).1),
    h.c3.kept (bl _ l3 h.r13.symm) (fun hb hf => bl _ (kl h.c3 hb hf) (h.k3r ⟨hb, hf⟩).1), ?_, ?_, h.r23, (fun p => by cases p.2), fun p => ⟨?_, (h.k2r p).2⟩, fun p => ⟨?_, (h.k3r p).2⟩⟩, hg, ho.lt'.1⟩
  · rcases hat with e | e
    · rw [e]; exact h.r12
    · omega
  · rcases hat with e | e
    · rw [e]; exact h.r13
    · omega
  · have := kl h.c2 p.1 p.2
    rcases hat with e | e
    · rw [e]; exact (h.k2r p).1
    · omega
  · have := kl h.c3 p.1 p.2
    rcases hat with e | e
    · rw [e]; exact (h.k3r p).1
    · omega

end Go.Proofs.Ytciadiaodceijaa

/-
  The block of an ascii85 encoder, and what stores into it make of it; a writer that an encoder writes to. No condition.
-/
import Derived.Test.YtmddbfcghddacaaRow
import Derived.Test.YtmddbfcghddacaaAsc
namespace Go.Proofs.Ytmddbfcghddacaa
open Go.RowKit

/-- the cells of an encoder: no error, its writer, the bytes that wait, how many, the room for a text -/
structure EncCs (wv : Value) (buf : List UInt8) (cs : Array Value) : Prop where
  size : cs.size = 1031
  err : cs[0]? = some .nilIface
  wr : cs[1]? = some wv
  nbuf : cs[6]? = some (.int .i64 (buf.length : Int))
  bts : ∀ (i : Nat) (x : UInt8), buf[i]? = some x → cs[2 + i]? = some (Value.int .u8 (x.toNat : Int))
  len : buf.length ≤ 4
  b4 : ∀ i, i < 4 → ∃ z : Int, cs[2 + i]? = some (.int .u8 z)
  out : ∀ i, i < 1024 → ∃ z : Int, cs[7 + i]? = some (.int .u8 z)

def EncB (w : World) (ge : Nat) (wv : Value) (buf : List UInt8) : Prop :=
  ∃ cs, w.heap[ge]? = some (.cells cs 56 (0, 0)) ∧ EncCs wv buf cs

theorem EncB.keep {w w' : World} {ge : Nat} {wv : Value} {buf : List UInt8} (h : EncB w ge wv buf) (hk : w'.heap[ge]? = w.heap[ge]?) : EncB w' ge wv buf := by
  obtain ⟨cs, h1, h2⟩ := h
  exact ⟨cs, hk.trans h1, h2⟩
theorem EncB.lt {w : World} {ge : Nat} {wv : Value} {buf : List UInt8} (h : EncB w ge wv buf) : ge < w.heap.size := by
  obtain ⟨cs, h1, _⟩ := h
  exact (Array.getElem?_eq_some_iff.1 h1).1

theorem EncB.cells {w : World} {ge : Nat} {wv : Value} {buf : List UInt8} (h : EncB w ge wv buf) :
    w.cell? ⟨ge, 0, none⟩ = some .nilIface ∧ w.cell? ⟨ge, 1, none⟩ = some wv ∧ w.cell? ⟨ge, 6, none⟩ = some (.int .i64 (buf.length : Int)) ∧ (∀ (i : Nat) (x : UInt8), buf[i]? = some x → w.cell? ⟨ge, 2 + i, none⟩ = some (Value.int .u8 (x.toNat : Int))) ∧
      (∀ i, i < 4 → ∃ z : Int, w.cell? ⟨ge, 2 + i, none⟩ = some (.int .u8 z)) ∧ ∀ i, w.frozen? ⟨ge, i, none⟩ = false := by
  obtain ⟨cs, h1, h2⟩ := h
  refine ⟨?_, ?_, ?_, fun i x hx => ?_, fun i hi => ?_, fun i => frozen_of_row w ge i cs _ h1⟩
  · rw [cell_of_row w ge _ _ _ _ h1]; exact h2.err
  · rw [cell_of_row w ge _ _ _ _ h1]; exact h2.wr
  · rw [cell_of_row w ge _ _ _ _ h1]; exact h2.nbuf
  · rw [cell_of_row w ge _ _ _ _ h1]; exact h2.bts i x hx
  · rw [cell_of_row w ge _ _ _ _ h1]; exact h2.b4 i hi

theorem heap_set_same (w : World) (ge i : Nat) (cs : Array Value) (T : TypeId) (v : Value) (h : w.heap[ge]? = some (.cells cs T (0, 0))) : (w.setCell ⟨ge, i, none⟩ v).heap[ge]? = some (.cells (cs.setIfInBounds i v) T (0, 0)) := by
  simp [World.setCell, Array.getElem?_modify, h]

/-- one byte more waits: it is stored, then it is counted -/
theorem EncB.put {w : World} {ge : Nat} {wv : Value} {buf : List UInt8} (h : EncB w ge wv buf) (hl : buf.length < 4) (x : UInt8) (j : Nat) (hj : j = 2 + buf.length) (z : Int) (hz : z = (buf.length : Int) + 1) :
    EncB ((w.setCell ⟨ge, j, none⟩ (.int .u8 (x.toNat : Int))).setCell ⟨ge, 6, none⟩ (.int .i64 z)) ge wv (buf ++ [x]) := by
  subst hj hz
  obtain ⟨cs, h1, h2⟩ := h
  refine ⟨_, heap_set_same _ ge 6 _ _ _ (heap_set_same w ge _ cs _ _ h1), ?_⟩
  have sz := h2.size
  refine ⟨by simp [sz], ?_, ?_, ?_, fun i y hy => ?_, by simp; omega, fun i hi => ?_, fun i hi => ?_⟩
  · rw [Array.getElem?_setIfInBounds, if_neg (by omega), Array.getElem?_setIfInBounds, if_neg (by omega)]; exact h2.err
  · rw [Array.getElem?_setIfInBounds, if_neg (by omega), Array.getElem?_setIfInBounds, if_neg (by omega)]; exact h2.wr
  · rw [Array.getElem?_setIfInBounds, if_pos rfl, if_pos (by simp [sz])]; simp
  · have hil : i < (buf ++ [x]).length := (List.getElem?_eq_some_iff.1 hy).1
    rw [List.length_append, List.length_singleton] at hil
    rw [Array.getElem?_setIfInBounds, if_neg (by omega), Array.getElem?_setIfInBounds]
    by_cases hi : buf.length = i
    · subst hi
      rw [if_pos rfl, if_pos (by omega)]
      rw [List.getElem?_append_right (Nat.le_refl _), Nat.sub_self] at hy
      simp at hy
      rw [hy]
    · rw [if_neg (by omega)]
      rw [List.getElem?_append_left (by omega)] at hy
      exact h2.bts i y hy
  · rw [Array.getElem?_setIfInBounds, if_neg (by omega), Array.getElem?_setIfInBounds]
    split
    · rw [if_pos (by omega)]; exact ⟨_, rfl⟩
    · exact h2.b4 i hi
  · rw [Array.getElem?_setIfInBounds, if_neg (by omega), Array.getElem?_setIfInBounds, if_neg (by omega)]; exact h2.out i hi

/-- a text is written to the room behind -/
theorem EncB.text {w : World} {ge : Nat} {wv : Value} {buf : List UInt8} {cs cr : Array Value} (h1 : w.heap[ge]? = some (.cells cs 56 (0, 0))) (h2 : EncCs wv buf cs) (hu : Upd 7 (7 + 1024) cs cr) : EncB (w.setRow ge cr) ge wv buf := by
  refine ⟨cr, setRow_heap w ge cs cr _ _ h1, ?_⟩
  refine ⟨hu.size.trans h2.size, ?_, ?_, ?_, fun i x hx => ?_, h2.len, fun i hi => ?_, fun i hi => ?_⟩
  · rw [hu.out 0 (by omega)]; exact h2.err
  · rw [hu.out 1 (by omega)]; exact h2.wr
  · rw [hu.out 6 (by omega)]; exact h2.nbuf
  · have := (List.getElem?_eq_some_iff.1 hx).1
    have := h2.len
    rw [hu.out (2 + i) (by omega)]; exact h2.bts i x hx
  · rw [hu.out (2 + i) (by omega)]; exact h2.b4 i hi
  · exact hu.u8 _ (by omega) (by omega) (h2.out i hi)

/-- no error is stored where there was none -/
theorem EncB.err {w : World} {ge : Nat} {wv : Value} {buf : List UInt8} (h : EncB w ge wv buf) : EncB (w.setCell ⟨ge, 0, none⟩ .nilIface) ge wv buf := by
  obtain ⟨cs, h1, h2⟩ := h
  refine ⟨_, heap_set_same w ge 0 cs _ _ h1, ?_⟩
  have sz := h2.size
  have e : cs.setIfInBounds 0 .nilIface = cs := by
    apply Array.ext_getElem?
    intro k
    rw [Array.getElem?_setIfInBounds]
    split
    · subst_vars
      rw [if_pos (by omega), h2.err]
    · rfl
  rw [e]
  exact h2

/-- what waits is counted anew: none -/
theorem EncB.clr {w : World} {ge : Nat} {wv : Value} {buf : List UInt8} (h : EncB w ge wv buf) : EncB (w.setCell ⟨ge, 6, none⟩ (.int .i64 0)) ge wv [] := by
  obtain ⟨cs, h1, h2⟩ := h
  have sz := h2.size
  refine ⟨_, heap_set_same w ge 6 cs _ _ h1, ?_⟩
  refine ⟨by simp [sz], ?_, ?_, ?_, by simp, by simp, fun i hi => ?_, fun i hi => ?_⟩
  · rw [Array.getElem?_setIfInBounds, if_neg (by omega)]; exact h2.err
  · rw [Array.getElem?_setIfInBounds, if_neg (by omega)]; exact h2.wr
  · rw [Array.getElem?_setIfInBounds, if_pos rfl, if_pos (by omega)]; rfl
  · rw [Array.getElem?_setIfInBounds, if_neg (by omega)]; exact h2.b4 i hi
  · rw [Array.getElem?_setIfInBounds, if_neg (by omega)]; exact h2.out i hi

theorem cell_off (w : World) (g i j : Nat) (u v : Value) (h : i ≠ j) (hv : w.cell? ⟨g, j, none⟩ = some v) : (w.setCell ⟨g, i, none⟩ u).cell? ⟨g, j, none⟩ = some v := by
  rw [World.cell?_setCell_other w ⟨g, i, none⟩ ⟨g, j, none⟩ u (fun e => by injection e with _ e _; exact h e)]; exact hv

/-- between w and w' no old block turned but those of M -/
structure Fr (M : Nat → Prop) (w w' : World) : Prop where
  os : w'.os = w.os
  tape : w'.tape = w.tape
  output : w'.output = w.output
  size : w.heap.size ≤ w'.heap.size
  block : ∀ k, k < w.heap.size → ¬ M k → w'.heap[k]? = w.heap[k]?
theorem Fr.refl (M : Nat → Prop) (w : World) : Fr M w w := ⟨rfl, rfl, rfl, Nat.le_refl _, fun _ _ _ => rfl⟩
theorem Fr.trans {M M' : Nat → Prop} {a b c : World} (h : Fr M a b) (k : Fr M' b c) (hs : ∀ i, i < a.heap.size → M' i → M i) : Fr M a c :=
  ⟨k.os.trans h.os, k.tape.trans h.tape, k.output.trans h.output, Nat.le_trans h.size k.size, fun i hi hm => (k.block i (Nat.lt_of_lt_of_le hi h.size) (fun hx => hm (hs i hi hx))).trans (h.block i hi hm)⟩
theorem Fr.mono {M M' : Nat → Prop} {a b : World} (h : Fr M a b) (hs : ∀ i, i < a.heap.size → M i → M' i) : Fr M' a b :=
  ⟨h.os, h.tape, h.output, h.size, fun i hi hm => h.block i hi (fun hx => hm (hs i hi hx))⟩
theorem Fr.setCell {M : Nat → Prop} {a w : World} (h : Fr M a w) {p : Addr} (hp : M p.block) (u : Value) : Fr M a (w.setCell p u) :=
  h.trans (M' := M) ⟨rfl, rfl, rfl, by simp [World.setCell], fun k _ hm => Below.heap_setCell _ _ _ _ (fun e => hm (e ▸ hp))⟩ (fun _ _ h => h)
theorem Fr.setRow {M : Nat → Prop} {a w : World} (h : Fr M a w) {g : Nat} (hp : M g) (cs : Array Value) : Fr M a (w.setRow g cs) :=
  h.trans (M' := M) ⟨rfl, rfl, rfl, by simp, fun k _ hm => heap_setRow_other w g k cs (fun e => hm (e ▸ hp))⟩ (fun _ _ h => h)
theorem Fr.alloc {M : Nat → Prop} {a w : World} (h : Fr M a w) (o : Obj) : Fr M a (w.alloc o) :=
  h.trans (M' := M) ⟨rfl, rfl, rfl, by simp, fun k hk _ => Below.heap_alloc _ _ _ hk⟩ (fun _ _ h => h)
theorem Fr.drew {M : Nat → Prop} {a w : World} (h : Fr M a w) : Fr M a w.drew := ⟨h.os, h.tape, h.output, h.size, h.block⟩
theorem Fr.undrew {M : Nat → Prop} {a w : World} (h : Fr M a.drew w) : Fr M a w := ⟨h.os, h.tape, h.output, h.size, h.block⟩
theorem Fr.below {M : Nat → Prop} {a w w' : World} (h : Fr M a w) (hb : Below w.heap.size w w') : Fr M a w' :=
  h.trans (M' := M) ⟨hb.os, hb.tape, hb.output, hb.size, fun k hk _ => hb.block k hk⟩ (fun _ _ h => h)
theorem Fr.toBelow {M : Nat → Prop} {a w : World} (h : Fr M a w) {B : Nat} (hB : B ≤ a.heap.size) (hm : ∀ k, k < B → ¬ M k) : Below B a w :=
  ⟨h.os, h.tape, h.output, h.size, fun k hk => h.block k (by omega) (hm k hk)⟩

/-- a writer (at pw, of type tw, whose Write is fW), and what is collected of it: 'St w M txt rows': in the world w it has been given txt, rows have been collected; the blocks of M are its own. -/
structure Wtr (P : Program) (tw : TypeId) (pw : Addr) (fW : FuncId) (St : World → (Nat → Prop) → List UInt8 → List (List UInt8) → Prop) : Prop where
  nil : ∀ k w, (nilAhead (k + 1) tw (.pointer (some pw)) "Write").run P w = .ok (some false) w
  met : ∀ k w, (method (k + 1) tw (.pointer (some pw)) "Write").run P w = .ok (fW, .pointer (some pw)) w
  ent : ∀ args w, (callFunc fW args).run P w = .ok (.enter fW args) w
  put : ∀ (w : World) (M : Nat → Prop) (txt : List UInt8) (rows : List (List UInt8)) (ge o n c : Nat) (chunk : List UInt8), St w M txt rows → ¬ M ge → ge < w.heap.size → n = chunk.length → 0 < n → n ≤ c → c ≤ 1024 →
    (∀ (i : Nat) (x : UInt8), chunk[i]? = some x → w.cell? ⟨ge, o + i, none⟩ = some (Value.int .u8 (x.toNat : Int))) → txt.length + n ≤ 20000000 →
    Calls P fW #[.pointer (some pw), .slice (some ⟨ge, o, none⟩) n c] w fun e w' => e = .returned (.tuple #[.int .i64 (n : Int), .nilIface]) ∧ ∃ M', St w' M' (txt ++ chunk) rows ∧ Fr M w w' ∧ ∀ k, k < w.heap.size → M' k → M k
  same : ∀ (w w' : World) (M : Nat → Prop) (txt : List UInt8) (rows : List (List UInt8)), St w M txt rows → (∀ k, M k → w'.heap[k]? = w.heap[k]?) → St w' M txt rows
  lt : ∀ (w : World) (M : Nat → Prop) (txt : List UInt8) (rows : List (List UInt8)), St w M txt rows → ∀ k, M k → k < w.heap.size

end Go.Proofs.Ytmddbfcghddacaa

/-
  The block of a digest of SHA-3: its cells, and what stores into it make of it. No condition.
-/
import Derived.Test.YtemojkjcnkbpoaaKec
import Derived.Test.YtemojkjcnkbpoaaRow
namespace Go.Proofs.Ytemojkjcnkbpoaa
open Go.RowKit
set_option linter.unusedVariables false

/-- the cells of a digest: the state, the place, the rate, the byte of the domain, the length of the sum, the direction; what stands behind -/
def dgL (a : List UInt8) (n rate ds out st : Nat) (tl : List Value) : List Value := a.map bv ++ ([.int .i64 (n : Int), .int .i64 (rate : Int), .int .u8 (ds : Int), .int .i64 (out : Int), .int .i64 (st : Int)] ++ tl)

structure DG (w : World) (h : Nat) (T : TypeId) (a : List UInt8) (n rate ds out st : Nat) (tl : List Value) : Prop where
  blk : w.heap[h]? = some (.cells (dgL a n rate ds out st tl).toArray T (0, 0))
  len : a.length = 200

section
variable {w : World} {h : Nat} {T : TypeId} {a : List UInt8} {n rate ds out st : Nat} {tl : List Value}

theorem dgL_at (hl : a.length = 200) (i : Nat) : (dgL a n rate ds out st tl)[i]? = if i < 200 then (a.map bv)[i]? else ([.int .i64 (n : Int), .int .i64 (rate : Int), .int .u8 (ds : Int), .int .i64 (out : Int), .int .i64 (st : Int)] ++ tl)[i - 200]? := by
  unfold dgL
  by_cases hi : i < 200
  · rw [if_pos hi, List.getElem?_append_left (by rw [List.length_map]; omega)]
  · rw [if_neg hi, List.getElem?_append_right (by rw [List.length_map]; omega), List.length_map, hl]
theorem dgL_len (hl : a.length = 200) : (dgL a n rate ds out st tl).length = 205 + tl.length := by
  unfold dgL; simp only [List.length_append, List.length_map, List.length_cons, List.length_nil, hl]; omega

theorem DG.cell (d : DG w h T a n rate ds out st tl) (i : Nat) : w.cell? ⟨h, i, none⟩ = (dgL a n rate ds out st tl)[i]? := by
  rw [cell_of_row w h i _ _ _ d.blk]; simp
theorem DG.byte (d : DG w h T a n rate ds out st tl) {i : Nat} {x : UInt8} (hx : a[i]? = some x) : w.cell? ⟨h, i, none⟩ = some (bv x) := by
  have hi := (List.getElem?_eq_some_iff.1 hx).1
  have := d.len
  rw [d.cell, dgL_at d.len, if_pos (by omega), List.getElem?_map, hx]; rfl
theorem DG.fz (d : DG w h T a n rate ds out st tl) (i : Nat) : w.frozen? ⟨h, i, none⟩ = false := frozen_of_row w h i _ _ d.blk
theorem DG.cs (d : DG w h T a n rate ds out st tl) : w.cell? ⟨h, 200, none⟩ = some (.int .i64 (n : Int)) ∧ w.cell? ⟨h, 201, none⟩ = some (.int .i64 (rate : Int)) ∧ w.cell? ⟨h, 202, none⟩ = some (.int .u8 (ds : Int)) ∧ w.cell? ⟨h, 203, none⟩ = some (.int .i64 (out : Int)) ∧ w.cell? ⟨h, 204, none⟩ = some (.int .i64 (st : Int)) := by
  refine ⟨?_, ?_, ?_, ?_, ?_⟩ <;> rw [d.cell, dgL_at d.len] <;> rfl
theorem DG.lt (d : DG w h T a n rate ds out st tl) : h < w.heap.size := (Array.getElem?_eq_some_iff.1 d.blk).1
theorem DG.keep {w' : World} (d : DG w h T a n rate ds out st tl) (e : w'.heap[h]? = w.heap[h]?) : DG w' h T a n rate ds out st tl := ⟨e.trans d.blk, d.len⟩

theorem heap_set_dg (cs : Array Value) (hh : w.heap[h]? = some (.cells cs T (0, 0))) (i : Nat) (v : Value) : (w.setCell ⟨h, i, none⟩ v).heap[h]? = some (.cells (cs.setIfInBounds i v) T (0, 0)) := by
  simp [World.setCell, Array.getElem?_modify, hh]
theorem dgL_set_n (hl : a.length = 200) (m : Nat) : (dgL a n rate ds out st tl).set 200 (.int .i64 (m : Int)) = dgL a m rate ds out st tl := by
  unfold dgL
  rw [List.set_append_right _ _ (by rw [List.length_map]; omega), List.length_map, hl]
  rfl
theorem dgL_set_st (hl : a.length = 200) (m : Nat) : (dgL a n rate ds out st tl).set 204 (.int .i64 (m : Int)) = dgL a n rate ds out m tl := by
  unfold dgL
  rw [List.set_append_right _ _ (by rw [List.length_map]; omega), List.length_map, hl]
  rfl
theorem dgL_set_a (hl : a.length = 200) (i : Nat) (hi : i < 200) (x : UInt8) : (dgL a n rate ds out st tl).set i (bv x) = dgL (a.set i x) n rate ds out st tl := by
  unfold dgL
  rw [List.set_append_left _ _ (by rw [List.length_map]; omega), List.map_set]
theorem DG.setN (d : DG w h T a n rate ds out st tl) (m : Nat) (z : Int) (hz : z = (m : Int)) : DG (w.setCell ⟨h, 200, none⟩ (.int .i64 z)) h T a m rate ds out st tl := by
  subst hz
  refine ⟨?_, d.len⟩
  rw [heap_set_dg _ d.blk, List.setIfInBounds_toArray, dgL_set_n d.len]
theorem DG.setSt (d : DG w h T a n rate ds out st tl) (m : Nat) (z : Int) (hz : z = (m : Int)) : DG (w.setCell ⟨h, 204, none⟩ (.int .i64 z)) h T a n rate ds out m tl := by
  subst hz
  refine ⟨?_, d.len⟩
  rw [heap_set_dg _ d.blk, List.setIfInBounds_toArray, dgL_set_st d.len]
theorem DG.setA (d : DG w h T a n rate ds out st tl) (i : Nat) (hi : i < 200) (x : UInt8) (z : Int) (hz : z = (x.toNat : Int)) : DG (w.setCell ⟨h, i, none⟩ (.int .u8 z)) h T (a.set i x) n rate ds out st tl := by
  subst hz
  refine ⟨?_, by rw [List.length_set]; exact d.len⟩
  rw [heap_set_dg _ d.blk, List.setIfInBounds_toArray]
  have := dgL_set_a (n := n) (rate := rate) (ds := ds) (out := out) (st := st) (tl := tl) d.len i hi x
  unfold bv at this
  rw [this]
/-- a piece of the state is written -/
theorem DG.put (d : DG w h T a n rate ds out st tl) (o : Nat) (xs : List UInt8) (ho : o + xs.length ≤ 200) :
    DG (w.setRow h ((dgL a n rate ds out st tl).take o ++ xs.map bv ++ (dgL a n rate ds out st tl).drop (o + xs.length)).toArray) h T (a.take o ++ xs ++ a.drop (o + xs.length)) n rate ds out st tl := by
  have hl := d.len
  refine ⟨?_, by simp only [List.length_append, List.length_take, List.length_drop, hl]; omega⟩
  rw [setRow_heap w h _ _ _ _ d.blk]
  have e : (dgL a n rate ds out st tl).take o ++ xs.map bv ++ (dgL a n rate ds out st tl).drop (o + xs.length) = dgL (a.take o ++ xs ++ a.drop (o + xs.length)) n rate ds out st tl := by
    unfold dgL
    rw [List.take_append_of_le_length (by rw [List.length_map]; omega), List.drop_append_of_le_length (by rw [List.length_map]; omega), List.map_append, List.map_append, List.map_take, List.map_drop, List.append_assoc, List.append_assoc, List.append_assoc]
  rw [e]
end

end Go.Proofs.Ytemojkjcnkbpoaa

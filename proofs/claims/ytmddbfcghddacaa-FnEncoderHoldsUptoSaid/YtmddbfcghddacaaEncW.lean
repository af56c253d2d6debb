/-
  encoding/ascii85's encoder: Write. Condition: it is an encoder that has met no error, over a writer that takes all; the lengths' bounds.
-/
import Derived.Test.YtmddbfcghddacaaEncC
import Derived.Test.YtmddbfcghddacaaSlc
import Derived.Deep.LoopGhost
import Derived.Laws.IdiomCopy
import Derived.Laws.CopyRow
namespace Go.Proofs.Ytmddbfcghddacaa
open Go.RowKit
set_option linter.unusedVariables false

/-- the text of the whole groups, and what is left -/
def encG (x : List UInt8) : List UInt8 := Asc.enc (x.take (4 * (x.length / 4)))
def dropG (x : List UInt8) : List UInt8 := x.drop (4 * (x.length / 4))

theorem encG_cut (x : List UInt8) (k q : Nat) (hk : k ≤ x.length) (h4 : k = 4 * q) : encG x = Asc.enc (x.take k) ++ encG (x.drop k) ∧ dropG x = dropG (x.drop k) := by
  subst h4
  have e : (x.drop (4 * q)).length / 4 = x.length / 4 - q := by rw [List.length_drop]; omega
  have e2 : 4 * q + 4 * (x.length / 4 - q) = 4 * (x.length / 4) := by omega
  constructor
  · unfold encG
    rw [e, ← Asc.enc_append q _ _ (by rw [List.length_take]; omega)]
    congr 1
    rw [← List.take_add, e2]
  · unfold dropG
    rw [e, List.drop_drop, e2]
theorem encG_short (x : List UInt8) (h : x.length < 4) : encG x = [] ∧ dropG x = x := by
  have e : x.length / 4 = 0 := by omega
  unfold encG dropG
  rw [e]
  exact ⟨by simp [Asc.enc_nil], by simp⟩
theorem dropG_len (x : List UInt8) : (dropG x).length < 4 := by unfold dropG; rw [List.length_drop]; omega
theorem encG_first (buf p : List UInt8) (i : Nat) (h : buf.length + i = 4) (hi : i ≤ p.length) : encG (buf ++ p) = Asc.enc (buf ++ p.take i) ++ encG (p.drop i) ∧ dropG (buf ++ p) = dropG (p.drop i) := by
  have h1 : (buf ++ p).take 4 = buf ++ p.take i := by rw [List.take_append, List.take_of_length_le (by omega)]; congr 2; omega
  have h2 : (buf ++ p).drop 4 = p.drop i := by rw [List.drop_append, List.drop_eq_nil_of_le (by omega), List.nil_append]; congr 1; omega
  have := encG_cut (buf ++ p) 4 1 (by rw [List.length_append]; omega) rfl
  rw [h1, h2] at this
  exact this

/-- bytes that lie apart from M and from the encoder's block -/
def RdN (w : World) (M : Nat → Prop) (ge : Nat) (A : Option Addr) (p : List UInt8) : Prop :=
  p = [] ∨ ∃ b o, A = some ⟨b, o, none⟩ ∧ b < w.heap.size ∧ ¬ M b ∧ b ≠ ge ∧ ∀ (i : Nat) (x : UInt8), p[i]? = some x → w.cell? ⟨b, o + i, none⟩ = some (.int .u8 (x.toNat : Int))
theorem RdN.keep {w w' : World} {M M' : Nat → Prop} {ge : Nat} {A : Option Addr} {p : List UInt8} (h : RdN w M ge A p) (hf : Fr (fun k => M k ∨ k = ge) w w') (hs : ∀ k, k < w.heap.size → M' k → M k) : RdN w' M' ge A p := by
  rcases h with h | ⟨b, o, h1, h2, h3, h4, h5⟩
  · exact .inl h
  · refine .inr ⟨b, o, h1, Nat.lt_of_lt_of_le h2 hf.size, fun h => h3 (hs b h2 h), h4, fun i x hx => ?_⟩
    rw [World.cell?_of_block (a := ⟨b, o + i, none⟩) (hf.block b h2 (fun h => h.elim h3 h4))]
    exact h5 i x hx
theorem RdN.cut {w : World} {M : Nat → Prop} {ge : Nat} {A A' : Option Addr} {p : List UInt8} {k : Nat} (h : RdN w M ge A p) (hA : ∀ b off, A = some ⟨b, off, none⟩ → k < p.length → A' = some ⟨b, off + k, none⟩) : RdN w M ge A' (p.drop k) := by
  rcases h with h | ⟨b, o, rfl, h2, h3, h4, h5⟩
  · exact .inl (by simp [h])
  · by_cases hk : k < p.length
    · refine .inr ⟨b, o + k, hA b o rfl hk, h2, h3, h4, fun i x hx => ?_⟩
      rw [List.getElem?_drop] at hx
      rw [Nat.add_assoc]
      exact h5 _ x hx
    · exact .inl (List.drop_eq_nil_of_le (by omega))
theorem RdN.at {w : World} {M : Nat → Prop} {ge : Nat} {A : Option Addr} {p : List UInt8} (h : RdN w M ge A p) {k : Nat} (hk : k < p.length) :
    ∃ b o x, A = some ⟨b, o, none⟩ ∧ b < w.heap.size ∧ ¬ M b ∧ b ≠ ge ∧ p[k]? = some x ∧ w.cell? ⟨b, o + k, none⟩ = some (.int .u8 (x.toNat : Int)) := by
  rcases h with h | ⟨b, o, h1, h2, h3, h4, h5⟩
  · subst h; simp at hk
  · exact ⟨b, o, p[k], h1, h2, h3, h4, List.getElem?_eq_getElem hk, h5 k _ (List.getElem?_eq_getElem hk)⟩

/-- the last bytes are copied to where they wait, and counted -/
theorem encB_tail {w : World} {ge : Nat} {wv : Value} {cs : Array Value} {r : List UInt8} (h1 : w.heap[ge]? = some (.cells cs 56 (0, 0))) {b0 : List UInt8} (h2 : EncCs wv b0 cs) (hr : r.length < 4) (z : Int) (hz : z = (r.length : Int)) :
    EncB ((w.setRow ge (cs.toList.take 2 ++ r.map bv ++ cs.toList.drop (2 + r.length)).toArray).setCell ⟨ge, 6, none⟩ (.int .i64 z)) ge wv r := by
  subst hz
  have sz := h2.size
  have hl : cs.toList.length = 1031 := by rw [Array.length_toList]; exact sz
  have hl2 : (cs.toList.take 2).length = 2 := by rw [List.length_take]; omega
  have key : ∀ i, (cs.toList.take 2 ++ r.map bv ++ cs.toList.drop (2 + r.length)).toArray[i]? = if i < 2 then cs[i]? else if i < 2 + r.length then (r.map bv)[i - 2]? else cs[i]? := by
    intro i
    rw [List.getElem?_toArray, List.append_assoc]
    by_cases hi : i < 2
    · rw [if_pos hi, List.getElem?_append_left (by omega), List.getElem?_take, if_pos hi, Array.getElem?_toList]
    · rw [if_neg hi, List.getElem?_append_right (by omega), hl2]
      by_cases hj : i < 2 + r.length
      · rw [if_pos hj, List.getElem?_append_left (by rw [List.length_map]; omega)]
      · rw [if_neg hj, List.getElem?_append_right (by rw [List.length_map]; omega), List.length_map, List.getElem?_drop, Array.getElem?_toList]
        congr 1
        omega
  refine ⟨_, heap_set_same _ ge 6 _ _ _ (setRow_heap w ge cs _ _ _ h1), ?_⟩
  have sz2 : (cs.toList.take 2 ++ r.map bv ++ cs.toList.drop (2 + r.length)).toArray.size = 1031 := by
    rw [List.size_toArray, List.length_append, List.length_append, hl2, List.length_map, List.length_drop, hl]
    omega
  refine ⟨by rw [Array.size_setIfInBounds, sz2], ?_, ?_, ?_, fun i x hx => ?_, by omega, fun i hi => ?_, fun i hi => ?_⟩
  · rw [Array.getElem?_setIfInBounds, if_neg (by omega), key, if_pos (by omega)]; exact h2.err
  · rw [Array.getElem?_setIfInBounds, if_neg (by omega), key, if_pos (by omega)]; exact h2.wr
  · rw [Array.getElem?_setIfInBounds, if_pos rfl, if_pos (by omega)]
  · have hi := (List.getElem?_eq_some_iff.1 hx).1
    rw [Array.getElem?_setIfInBounds, if_neg (by omega), key, if_neg (by omega), if_pos (by omega)]
    rw [show 2 + i - 2 = i by omega, List.getElem?_map, hx]
    rfl
  · rw [Array.getElem?_setIfInBounds, if_neg (by omega), key, if_neg (by omega)]
    split
    · rw [show 2 + i - 2 = i by omega, List.getElem?_map, List.getElem?_eq_getElem (by omega)]
      exact ⟨_, rfl⟩
    · exact h2.b4 i hi
  · rw [Array.getElem?_setIfInBounds, if_neg (by omega), key, if_neg (by omega), if_neg (by omega)]; exact h2.out i hi

end Go.Proofs.Ytmddbfcghddacaa

/-
  Plain: how long the text of whole groups is; the last of the sums behind the pieces. No condition.
-/
import Derived.Test.YtemojkjcnkbpoaaGreatDoorAsc
import Derived.Test.YtemojkjcnkbpoaaGreatDoorSumsP
namespace Go.Proofs.YtemojkjcnkbpoaaGreatDoor
open Go.RowKit

/-- a character for each group of four bytes that is 0, five for the others -/
def dueOf : List UInt8 → Nat
  | a :: b :: c :: d :: r => (if Asc.be4 a b c d = 0 then 1 else 5) + dueOf r
  | _ => 0

theorem due_enc : ∀ (q : Nat) (x : List UInt8), x.length = 4 * q → (Asc.enc x).length = dueOf x
  | 0, x, h => by
    obtain rfl : x = [] := List.eq_nil_of_length_eq_zero (by omega)
    simp [Asc.enc_nil, dueOf]
  | q + 1, x, h => by
    match x, h with
    | a :: b :: c :: d :: r, h =>
      have ih := due_enc q r (by simp at h; omega)
      rw [Asc.enc, List.length_append, ih, dueOf]
      congr 1
      unfold Asc.grp
      split <;> simp_all [Asc.dig5]
    | [], h => simp at h
    | [_], h => simp at h; omega
    | [_, _], h => simp at h; omega
    | [_, _, _], h => simp at h; omega

theorem due_step {x : List UInt8} {i : Nat} {a b c d : UInt8} (h0 : x[i]? = some a) (h1 : x[i + 1]? = some b) (h2 : x[i + 2]? = some c) (h3 : x[i + 3]? = some d) :
    dueOf (x.drop i) = (if Asc.be4 a b c d = 0 then 1 else 5) + dueOf (x.drop (i + 4)) := by
  obtain ⟨l0, e0⟩ := List.getElem?_eq_some_iff.1 h0
  obtain ⟨l1, e1⟩ := List.getElem?_eq_some_iff.1 h1
  obtain ⟨l2, e2⟩ := List.getElem?_eq_some_iff.1 h2
  obtain ⟨l3, e3⟩ := List.getElem?_eq_some_iff.1 h3
  rw [List.drop_eq_getElem_cons l0, List.drop_eq_getElem_cons l1, List.drop_eq_getElem_cons l2, List.drop_eq_getElem_cons l3, dueOf, e0, e1, e2, e3]

theorem due_nil {x : List UInt8} {i : Nat} (h : x.length ≤ i) : dueOf (x.drop i) = 0 := by rw [List.drop_eq_nil_of_le h]; rfl
theorem due_le : ∀ x : List UInt8, dueOf x ≤ 5 * x.length
  | a :: b :: c :: d :: r => by
    have := due_le r
    rw [dueOf]
    simp only [List.length_cons]
    split <;> omega
  | [] => by simp [dueOf]
  | [_] => by simp [dueOf]
  | [_, _] => by simp [dueOf]
  | [_, _, _] => by simp [dueOf]

theorem sumsFrom_get (S : List UInt8 → List UInt8) (acc : List UInt8) (ps : List (List UInt8)) (i : Nat) (x : List UInt8) (h : (sumsFrom S acc ps)[i]? = some x) : ∃ y, x = S y := by
  induction ps generalizing acc i with
  | nil => simp [sumsFrom] at h
  | cons p r ih =>
    rw [sumsFrom] at h
    cases i with
    | zero => simp at h; exact ⟨_, h.symm⟩
    | succ i => rw [List.getElem?_cons_succ] at h; exact ih _ _ h
theorem sumsFrom_last (S : List UInt8 → List UInt8) (acc : List UInt8) (ps : List (List UInt8)) (n : Nat) (h : ps.length = n + 1) : (sumsFrom S acc ps)[n]? = some (S (acc ++ ps.flatten)) := by
  induction ps generalizing acc n with
  | nil => simp at h
  | cons p r ih =>
    rw [sumsFrom]
    cases n with
    | zero =>
      obtain rfl : r = [] := List.eq_nil_of_length_eq_zero (by rw [List.length_cons] at h; omega)
      simp
    | succ n =>
      rw [List.getElem?_cons_succ, ih (acc ++ p) n (by rw [List.length_cons] at h; omega), List.flatten_cons, List.append_assoc]
theorem sumsFrom_len (S : List UInt8 → List UInt8) (acc : List UInt8) (ps : List (List UInt8)) : (sumsFrom S acc ps).length = ps.length := by
  induction ps generalizing acc with
  | nil => rfl
  | cons p r ih => rw [sumsFrom, List.length_cons, ih, List.length_cons]
theorem pcs_flat (bs : List UInt8) (zs : List Int) : (pcs bs zs).flatten = bs := by
  induction zs generalizing bs with
  | nil => simp [pcs]
  | cons z r ih => rw [pcs, List.flatten_cons, ih, List.take_append_drop]

end Go.Proofs.YtemojkjcnkbpoaaGreatDoor

/-
  Plain: a sponge over any permutation of 200 bytes: absorbing and squeezing byte by byte, and in chunks. No program here. No condition.
-/
import Derived.Test.YtemojkjcnkbpoaaBase
namespace Go.Proofs.Ytemojkjcnkbpoaa.Spo

section
variable (kf : List UInt8 → List UInt8) (rate : Nat)

/-- a state: 200 bytes and a place -/
abbrev S : Type := List UInt8 × Nat

def absorb : S → List UInt8 → S
  | s, [] => s
  | (a, n), x :: r => if n + 1 = rate then absorb (kf (a.set n (a.getD n 0 ^^^ x)), 0) r else absorb (a.set n (a.getD n 0 ^^^ x), n + 1) r

def xorAt (a : List UInt8) (n : Nat) : List UInt8 → List UInt8
  | [] => a
  | x :: r => xorAt (a.set n (a.getD n 0 ^^^ x)) (n + 1) r

theorem absorb_append (s : S) (x y : List UInt8) : absorb kf rate s (x ++ y) = absorb kf rate (absorb kf rate s x) y := by
  induction x generalizing s with
  | nil => simp [absorb]
  | cons b r ih =>
    obtain ⟨a, n⟩ := s
    rw [List.cons_append, absorb, absorb]
    split <;> exact ih _

theorem absorb_less (a : List UInt8) (n : Nat) (xs : List UInt8) (h : n + xs.length < rate) : absorb kf rate (a, n) xs = (xorAt a n xs, n + xs.length) := by
  induction xs generalizing a n with
  | nil => simp [absorb, xorAt]
  | cons x r ih =>
    simp only [List.length_cons] at h
    rw [absorb, if_neg (by omega), ih _ _ (by omega), xorAt]
    simp only [List.length_cons, Prod.mk.injEq, true_and]
    omega

theorem absorb_full (a : List UInt8) (n : Nat) (xs : List UInt8) (h : n + xs.length = rate) (hx : xs ≠ []) : absorb kf rate (a, n) xs = (kf (xorAt a n xs), 0) := by
  induction xs generalizing a n with
  | nil => exact absurd rfl hx
  | cons x r ih =>
    simp only [List.length_cons] at h
    rw [absorb]
    by_cases hr : r = []
    · subst hr
      simp only [List.length_nil] at h
      rw [if_pos (by omega)]
      simp [absorb, xorAt]
    · have := List.length_pos_iff.2 hr
      rw [if_neg (by omega), ih _ _ (by omega) hr, xorAt]

theorem xorAt_len (a : List UInt8) (n : Nat) (xs : List UInt8) : (xorAt a n xs).length = a.length := by
  induction xs generalizing a n with
  | nil => rfl
  | cons x r ih => rw [xorAt, ih, List.length_set]

theorem xorAt_get (a : List UInt8) (n : Nat) (xs : List UInt8) (h : n + xs.length ≤ a.length) (i : Nat) (hi : i < a.length) :
    (xorAt a n xs).getD i 0 = if n ≤ i ∧ i < n + xs.length then a.getD i 0 ^^^ xs.getD (i - n) 0 else a.getD i 0 := by
  induction xs generalizing a n with
  | nil => rw [xorAt, if_neg (by simp only [List.length_nil]; omega)]
  | cons x r ih =>
    simp only [List.length_cons] at h ⊢
    rw [xorAt, ih _ _ (by rw [List.length_set]; omega) (by rw [List.length_set]; omega)]
    simp only [List.getD_eq_getElem?_getD, List.getElem?_set]
    by_cases h1 : n = i
    · subst h1
      rw [if_neg (by omega), if_pos rfl, if_pos (by omega), if_pos (by omega)]
      simp
    · rw [if_neg h1]
      by_cases h2 : n + 1 ≤ i ∧ i < n + 1 + r.length
      · rw [if_pos h2, if_pos (by omega)]
        have : i - n = (i - (n + 1)) + 1 := by omega
        rw [this, List.getElem?_cons_succ]
      · rw [if_neg h2, if_neg (by omega)]

/-- the place stays below the rate, the bytes stay 200 -/
theorem absorb_ok (hk : ∀ l, (kf l).length = 200) (h0 : 0 < rate) (s : S) (xs : List UInt8) (hs : s.1.length = 200 ∧ s.2 < rate) : (absorb kf rate s xs).1.length = 200 ∧ (absorb kf rate s xs).2 < rate := by
  induction xs generalizing s with
  | nil => simpa [absorb] using hs
  | cons x r ih =>
    obtain ⟨a, n⟩ := s
    rw [absorb]
    split
    · exact ih _ ⟨hk _, h0⟩
    · refine ih _ ⟨by rw [List.length_set]; exact hs.1, ?_⟩
      have := hs.2
      simp only at this ⊢
      omega

/-- bytes out of a state that is being squeezed -/
def wet (s : S) : S := if s.2 = rate then (kf s.1, 0) else s
def sqz : Nat → S → List UInt8
  | 0, _ => []
  | k + 1, s => (wet kf rate s).1.getD (wet kf rate s).2 0 :: sqz k ((wet kf rate s).1, (wet kf rate s).2 + 1)
def sqzS : Nat → S → S
  | 0, s => s
  | k + 1, s => sqzS k ((wet kf rate s).1, (wet kf rate s).2 + 1)

theorem sqz_len (k : Nat) (s : S) : (sqz kf rate k s).length = k := by
  induction k generalizing s with
  | zero => rfl
  | succ k ih => rw [sqz, List.length_cons, ih]
theorem sqz_add (j k : Nat) (s : S) : sqz kf rate (j + k) s = sqz kf rate j s ++ sqz kf rate k (sqzS kf rate j s) ∧ sqzS kf rate (j + k) s = sqzS kf rate k (sqzS kf rate j s) := by
  induction j generalizing s with
  | zero => simp [sqz, sqzS]
  | succ j ih =>
    rw [Nat.add_right_comm, sqz, sqz, sqzS, sqzS, List.cons_append]
    have h := ih ((wet kf rate s).1, (wet kf rate s).2 + 1)
    rw [h.1, h.2]
    exact ⟨rfl, rfl⟩
theorem sqz_chunk (a : List UInt8) (n k : Nat) (h : n + k ≤ rate) (hl : rate ≤ a.length) : sqz kf rate k (a, n) = (a.drop n).take k ∧ sqzS kf rate k (a, n) = (a, n + k) := by
  induction k generalizing n with
  | zero => simp [sqz, sqzS]
  | succ k ih =>
    have hw : wet kf rate (a, n) = (a, n) := by unfold wet; rw [if_neg (by simp only; omega)]
    rw [sqz, sqzS, hw]
    obtain ⟨h1, h2⟩ := ih (n + 1) (by omega)
    simp only
    rw [h1, h2]
    have hn : n < a.length := by omega
    constructor
    · rw [List.drop_eq_getElem_cons hn, List.take_succ_cons]
      simp [List.getD_eq_getElem?_getD, List.getElem?_eq_getElem hn]
    · simp only [Prod.mk.injEq, true_and]; omega
theorem wet_sqz (k : Nat) (s : S) (hk : 0 < k) (h0 : 0 < rate) : sqz kf rate k s = sqz kf rate k (wet kf rate s) ∧ sqzS kf rate k s = sqzS kf rate k (wet kf rate s) := by
  obtain ⟨k, rfl⟩ : ∃ j, k = j + 1 := ⟨k - 1, by omega⟩
  have hw : wet kf rate (wet kf rate s) = wet kf rate s := by
    unfold wet
    split
    · simp only; rw [if_neg (by omega)]
    · rfl
  rw [sqz, sqz, sqzS, sqzS, hw]
  exact ⟨rfl, rfl⟩
theorem sqzS_ok (hk : ∀ l, (kf l).length = 200) (k : Nat) (s : S) (hs : s.1.length = 200 ∧ s.2 ≤ rate) (h0 : 0 < rate) : (sqzS kf rate k s).1.length = 200 ∧ (sqzS kf rate k s).2 ≤ rate := by
  induction k generalizing s with
  | zero => exact hs
  | succ k ih =>
    rw [sqzS]
    refine ih _ ?_
    unfold wet
    split
    · exact ⟨hk _, by simp only; omega⟩
    · exact ⟨hs.1, by have := hs.2; simp only; omega⟩
/-- two outputs of one state have the same beginning -/
theorem sqz_take (j k : Nat) (s : S) (h : j ≤ k) : (sqz kf rate k s).take j = sqz kf rate j s := by
  obtain ⟨m, rfl⟩ : ∃ m, k = j + m := ⟨k - j, by omega⟩
  rw [(sqz_add kf rate j m s).1, List.take_append_of_le_length (by rw [sqz_len]; exact Nat.le_refl _), List.take_of_length_le (by rw [sqz_len]; exact Nat.le_refl _)]
end

end Go.Proofs.Ytemojkjcnkbpoaa.Spo

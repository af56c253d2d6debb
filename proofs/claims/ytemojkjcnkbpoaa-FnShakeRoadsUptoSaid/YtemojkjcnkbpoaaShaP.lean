/-
  Plain: a round of a digest's Write, as the sponge has it. No program here. No condition.
-/
import Derived.Test.YtemojkjcnkbpoaaKec
namespace Go.Proofs.Ytemojkjcnkbpoaa
open Spo

theorem xorAt_eq (a : List UInt8) (n : Nat) (xs : List UInt8) (h : n + xs.length ≤ a.length) : xorAt a n xs = a.take n ++ xorL ((a.drop n).take xs.length) xs ++ a.drop (n + xs.length) := by
  induction xs generalizing a n with
  | nil => simp [xorAt, xorL]
  | cons x r ih =>
    simp only [List.length_cons] at h ⊢
    have hn : n < a.length := by omega
    rw [xorAt, ih _ _ (by rw [List.length_set]; omega)]
    have e1 : (a.set n (a.getD n 0 ^^^ x)).drop (n + 1) = a.drop (n + 1) := by rw [List.drop_set_of_lt (by omega)]
    have e2 : (a.set n (a.getD n 0 ^^^ x)).drop (n + 1 + r.length) = a.drop (n + (r.length + 1)) := by rw [List.drop_set_of_lt (by omega)]; congr 1; omega
    have e3 : (a.set n (a.getD n 0 ^^^ x)).take (n + 1) = a.take n ++ [a.getD n 0 ^^^ x] := by
      rw [List.take_add_one, List.getElem?_set_self hn]
      simp [List.take_set_of_le]
    have e4 : a.drop n = a.getD n 0 :: a.drop (n + 1) := by
      rw [List.drop_eq_getElem_cons hn]; simp [List.getD_eq_getElem?_getD, hn]
    rw [e1, e2, e3, e4, List.take_succ_cons, xorL]
    simp

theorem xorAt_eq' (a : List UInt8) (n k : Nat) (xs : List UInt8) (hk : k = xs.length) (h : n + k ≤ a.length) : a.take n ++ xorL ((a.drop n).take k) xs ++ a.drop (n + k) = xorAt a n xs := by
  subst hk; exact (xorAt_eq a n xs h).symm

theorem round_less (a : List UInt8) (n k rate : Nat) (r : List UInt8) (hk : k ≤ r.length) (h : n + k < rate) (hr : rate ≤ a.length) :
    absorb kf rate (a, n) r = absorb kf rate (a.take n ++ xorL ((a.drop n).take k) (r.take k) ++ a.drop (n + k), n + k) (r.drop k) := by
  have hl : (r.take k).length = k := by rw [List.length_take]; omega
  rw [xorAt_eq' a n k (r.take k) hl.symm (by omega)]
  conv => lhs; rw [← List.take_append_drop k r, absorb_append, absorb_less kf rate a n (r.take k) (by omega), hl]

theorem round_full (a : List UInt8) (n k rate : Nat) (r : List UInt8) (hk : k ≤ r.length) (h0 : 0 < k) (h : n + k = rate) (hr : rate ≤ a.length) :
    absorb kf rate (a, n) r = absorb kf rate (kf (a.take n ++ xorL ((a.drop n).take k) (r.take k) ++ a.drop (n + k)), 0) (r.drop k) := by
  have hl : (r.take k).length = k := by rw [List.length_take]; omega
  rw [xorAt_eq' a n k (r.take k) hl.symm (by omega)]
  conv => lhs; rw [← List.take_append_drop k r, absorb_append, absorb_full kf rate a n (r.take k) (by omega) (fun e => by rw [e] at hl; simp at hl; omega)]

end Go.Proofs.Ytemojkjcnkbpoaa

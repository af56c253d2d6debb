/-
  Plain: a round of a digest's Read, as the sponge has it; a row that is filled from the left. No program here. No condition.
-/
import Derived.Test.YtemojkjcnkbpoaaShaP
import Derived.Test.YtemojkjcnkbpoaaFr
import Derived.Test.YtemojkjcnkbpoaaDg
namespace Go.Proofs.Ytemojkjcnkbpoaa
open Spo
set_option linter.unusedVariables false

theorem read_step (rate : Nat) (s0 : S) (j k : Nat) (a n : _) (a2 : List UInt8) (n2 : Nat) (hs : sqzS kf rate j s0 = (a, n)) (hw : wet kf rate (a, n) = (a2, n2)) (hk : 0 < k) (hr : n2 + k ≤ rate) (hl : rate ≤ a2.length) :
    sqz kf rate (j + k) s0 = sqz kf rate j s0 ++ (a2.drop n2).take k ∧ sqzS kf rate (j + k) s0 = (a2, n2 + k) := by
  obtain ⟨h1, h2⟩ := sqz_add kf rate j k s0
  obtain ⟨h3, h4⟩ := wet_sqz kf rate k (sqzS kf rate j s0) hk (by omega)
  obtain ⟨h5, h6⟩ := sqz_chunk kf rate a2 n2 k hr hl
  rw [h1, h2, h3, h4, hs, hw, h5, h6]
  exact ⟨rfl, rfl⟩

theorem row_put {cs s ch : List Value} {o j k : Nat} (hs : s.length = j) (hch : ch.length = k) (hf : o + j + k ≤ cs.length) :
    (cs.take o ++ s ++ cs.drop (o + j)).take (o + j) ++ ch ++ (cs.take o ++ s ++ cs.drop (o + j)).drop (o + j + k) = cs.take o ++ (s ++ ch) ++ cs.drop (o + (j + k)) := by
  have h1 : (cs.take o ++ s).length = o + j := by rw [List.length_append, List.length_take, hs]; omega
  rw [List.take_append_of_le_length (by omega), List.take_of_length_le (by omega), List.drop_append, List.drop_eq_nil_of_le (by omega), List.nil_append, List.drop_drop, h1]
  have e : o + j + (o + j + k - (o + j)) = o + (j + k) := by omega
  rw [e]
  simp

theorem wet_len (rate : Nat) (a : List UInt8) (n : Nat) (hl : a.length = 200) (hn : n ≤ rate) (h0 : 0 < rate) (a2 : List UInt8) (n2 : Nat) (hw : wet kf rate (a, n) = (a2, n2)) : a2.length = 200 ∧ n2 < rate := by
  unfold wet at hw
  split at hw
  · injection hw with e1 e2
    subst e1 e2
    exact ⟨kf_len _, h0⟩
  · injection hw with e1 e2
    subst e1 e2
    rename_i h
    simp only at h
    exact ⟨hl, by omega⟩

/-- in the midst of a Read -/
structure RI (w0 w : World) (h : Nat) (T : TypeId) (rate ds out : Nat) (tl : List Value) (s0 : S) (b o m : Nat) (cs : Array Value) (Tb : TypeId) (A : Option Addr) (m' c' j : Nat) (a : List UInt8) (n : Nat) : Prop where
  dg : DG w h T a n rate ds out 1 tl
  hn : n ≤ rate
  st : sqzS kf rate j s0 = (a, n)
  hj : j + m' = m
  hmc : m' ≤ c'
  hc : c' ≤ 9223372036854775807
  adr : m' ≠ 0 → A = some ⟨b, o + j, none⟩
  blk : w.heap[b]? = some (.cells (cs.toList.take o ++ (sqz kf rate j s0).map bv ++ cs.toList.drop (o + j)).toArray Tb (0, 0))
  fr : Fr (fun k => k = h ∨ k = b) w0 w

/-- where the state is dry or full no more: behind the question whether to permute -/
structure RW (w0 w : World) (h : Nat) (T : TypeId) (rate ds out : Nat) (tl : List Value) (s0 : S) (b o : Nat) (cs : Array Value) (Tb : TypeId) (j : Nat) (a2 : List UInt8) (n2 : Nat) : Prop where
  dg : DG w h T a2 n2 rate ds out 1 tl
  blk : w.heap[b]? = some (.cells (cs.toList.take o ++ (sqz kf rate j s0).map bv ++ cs.toList.drop (o + j)).toArray Tb (0, 0))
  fr : Fr (fun k => k = h ∨ k = b) w0 w

end Go.Proofs.Ytemojkjcnkbpoaa

/-
  laws.sameBytes tells whether two lists of bytes are equal; it only reads. Condition: lengths below 2^62.
-/
import Derived.Test.YtciadiaodceijaaBase
import Derived.Deep.QuietTactic
import Derived.BigQuiet
import Derived.Deep.LoopGhost
import Derived.Deep.Draws
namespace Go.Proofs.Ytciadiaodceijaa
open Go.RowKit

theorem getElem?_beq_ne {xs ys : List UInt8} (hl : xs.length = ys.length) (h : xs ≠ ys) : ∃ k, k < xs.length ∧ xs.take k = ys.take k ∧ xs[k]? ≠ ys[k]? := by
  induction xs generalizing ys with
  | nil => cases ys <;> simp_all
  | cons x xs ih =>
    cases ys with
    | nil => simp at hl
    | cons y ys =>
      by_cases e : x = y
      · subst e
        obtain ⟨k, h1, h2, h3⟩ := ih (ys := ys) (by simpa using hl) (by simpa using h)
        exact ⟨k + 1, by simpa using h1, by simp [h2], by simpa using h3⟩
      · exact ⟨0, by simp, by simp, by simpa using e⟩

theorem Rd.at {w : World} {B : Nat} {A : Option Addr} {bs : List UInt8} (h : Rd w B A bs) {k : Nat} (hk : k < bs.length) :
    ∃ b off x, A = some ⟨b, off, none⟩ ∧ b < B ∧ bs[k]? = some x ∧ w.cell? ⟨b, off + k, none⟩ = some (.int .u8 (x.toNat : Int)) := by
  rcases h with h | ⟨b, off, rfl, hb, hc⟩
  · subst h; simp at hk
  · exact ⟨b, off, bs[k], rfl, hb, List.getElem?_eq_getElem hk, hc k _ (List.getElem?_eq_getElem hk)⟩


end Go.Proofs.Ytciadiaodceijaa

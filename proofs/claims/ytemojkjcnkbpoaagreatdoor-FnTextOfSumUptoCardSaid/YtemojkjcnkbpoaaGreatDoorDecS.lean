/-
  The state of ascii85.Decode's loop, and what a store of four bytes, or of the last fragment's, makes of it. No condition.
-/
import Derived.Test.YtemojkjcnkbpoaaGreatDoorDecP
import Derived.Test.YtemojkjcnkbpoaaGreatDoorRow
namespace Go.Proofs.YtemojkjcnkbpoaaGreatDoor
open Go.RowKit

/-- what lies in memory while Decode goes on: 'out' is written -/
structure DecSt (w : World) (g R : Nat) (cs : Array Value) (bs : List UInt8) (fl : Bool) (i used v nb : Nat) (out : List UInt8) (wr : World) : Prop where
  eq : Asc.dec R fl bs.length (bs.drop i) i used v nb out = Asc.dec R fl bs.length bs 0 0 0 0 []
  hv : v < 4294967296
  hnb : nb < 5
  hroom : nb ≠ 0 → out.length + 4 ≤ R
  hout : out.length ≤ R
  hused : used ≤ i
  world : ∃ cr, wr = w.setRow g cr ∧ Upd 0 R cs cr ∧ ∀ (j : Nat) (x : UInt8), out[j]? = some x → cr[j]? = some (Value.int .u8 (x.toNat : Int))

theorem DecSt.cells {w : World} {g R : Nat} {cs : Array Value} {bs : List UInt8} {fl : Bool} {i used v nb : Nat} {out : List UInt8} {wr : World} (h : DecSt w g R cs bs fl i used v nb out wr)
    (T : TypeId) (hg : w.heap[g]? = some (.cells cs T (0, 0))) (hu8 : ∀ i, i < R → ∃ z : Int, cs[i]? = some (.int .u8 z)) :
    (∀ k, k < R → ∃ z : Int, wr.cell? ⟨g, k, none⟩ = some (.int .u8 z)) ∧ (∀ k, wr.frozen? ⟨g, k, none⟩ = false) ∧ (∀ b k, b ≠ g → wr.cell? ⟨b, k, none⟩ = w.cell? ⟨b, k, none⟩) := by
  obtain ⟨cr, hw, hupd, _⟩ := h.world
  subst hw
  refine ⟨fun k hk => ?_, fun k => frozen_setRow w g k cs cr T hg, fun b k hb => cell_setRow_other w g _ cr hb⟩
  rw [cell_setRow w g k cs cr T (0, 0) hg]
  exact hupd.u8 k (by omega) hk (hu8 k hk)

/-- stores of bytes behind what is written -/
theorem put_bytes {w : World} {g R : Nat} {cs cr : Array Value} {out : List UInt8} (hsz : R ≤ cr.size) (T : TypeId) (hg : w.heap[g]? = some (.cells cs T (0, 0))) (hupd : Upd 0 R cs cr)
    (ht : ∀ (j : Nat) (x : UInt8), out[j]? = some x → cr[j]? = some (Value.int .u8 (x.toNat : Int))) (x : UInt8) (z : Int) (hz : z = (x.toNat : Int)) (n : Nat) (hn : n = out.length) (hl : n < R) :
    ∃ cr', (w.setRow g cr).setCell ⟨g, n, none⟩ (.int .u8 z) = w.setRow g cr' ∧ R ≤ cr'.size ∧ Upd 0 R cs cr' ∧ ∀ (j : Nat) (y : UInt8), (out ++ [x])[j]? = some y → cr'[j]? = some (Value.int .u8 (y.toNat : Int)) := by
  subst hz hn
  refine ⟨_, setRow_setCell w g _ cs cr T (0, 0) _ hg, by simpa using hsz, hupd.put _ _ (by omega) hl, fun j y hy => ?_⟩
  rw [Array.getElem?_setIfInBounds]
  by_cases hj : out.length = j
  · subst hj
    rw [if_pos rfl, if_pos (by omega)]
    rw [List.getElem?_append_right (Nat.le_refl _), Nat.sub_self] at hy
    simp at hy
    rw [hy]
  · rw [if_neg hj]
    have hjl : j < (out ++ [x]).length := (List.getElem?_eq_some_iff.1 hy).1
    rw [List.length_append, List.length_singleton] at hjl
    rw [List.getElem?_append_left (by omega)] at hy
    exact ht j y hy

theorem row_size {R : Nat} {cs cr : Array Value} (hu8 : ∀ i, i < R → ∃ z : Int, cs[i]? = some (.int .u8 z)) (hupd : Upd 0 R cs cr) : R ≤ cr.size := by
  rcases Nat.eq_zero_or_pos R with h0 | h0
  · omega
  · obtain ⟨z, hz⟩ := hu8 (R - 1) (by omega)
    have := (Array.getElem?_eq_some_iff.1 hz).1
    have := hupd.size
    omega

/-- four bytes more -/
theorem DecSt.four {w : World} {g R : Nat} {cs : Array Value} {bs : List UInt8} {fl : Bool} {i used v nb : Nat} {out : List UInt8} {wr : World} (h : DecSt w g R cs bs fl i used v nb out wr)
    (T : TypeId) (hg : w.heap[g]? = some (.cells cs T (0, 0))) (hu8 : ∀ i, i < R → ∃ z : Int, cs[i]? = some (.int .u8 z)) (n : Nat) (hn : n = out.length) (hr : n + 4 ≤ R)
    (x0 x1 x2 x3 : UInt8) (z0 z1 z2 z3 : Int) (e0 : z0 = (x0.toNat : Int)) (e1 : z1 = (x1.toNat : Int)) (e2 : z2 = (x2.toNat : Int)) (e3 : z3 = (x3.toNat : Int))
    (heq : Asc.dec R fl bs.length (bs.drop i) i used v nb out = Asc.dec R fl bs.length (bs.drop (i + 1)) (i + 1) (i + 1) 0 0 (out ++ [x0, x1, x2, x3])) :
    DecSt w g R cs bs fl (i + 1) (i + 1) 0 0 (out ++ [x0, x1, x2, x3]) ((((wr.setCell ⟨g, n, none⟩ (.int .u8 z0)).setCell ⟨g, n + 1, none⟩ (.int .u8 z1)).setCell ⟨g, n + 2, none⟩ (.int .u8 z2)).setCell ⟨g, n + 3, none⟩ (.int .u8 z3)) := by
  obtain ⟨cr, hw, hupd, ht⟩ := h.world
  subst hw
  obtain ⟨c1, w1, s1, u1, t1⟩ := put_bytes (row_size hu8 hupd) T hg hupd ht x0 z0 e0 n hn (by omega)
  obtain ⟨c2, w2, s2, u2, t2⟩ := put_bytes s1 T hg u1 t1 x1 z1 e1 (n + 1) (by simp; omega) (by omega)
  obtain ⟨c3, w3, s3, u3, t3⟩ := put_bytes s2 T hg u2 t2 x2 z2 e2 (n + 2) (by simp; omega) (by omega)
  obtain ⟨c4, w4, s4, u4, t4⟩ := put_bytes s3 T hg u3 t3 x3 z3 e3 (n + 3) (by simp; omega) (by omega)
  rw [w1, w2, w3, w4]
  refine ⟨heq.symm.trans h.eq, by omega, by omega, fun h => absurd rfl h, by simp; omega, Nat.le_refl _, c4, rfl, u4, ?_⟩
  have e : out ++ [x0, x1, x2, x3] = out ++ [x0] ++ [x1] ++ [x2] ++ [x3] := by simp
  rw [e]
  exact t4

/-- the memory behind the end: what was decoded lies at the head of the row -/
def DecEnd (w : World) (g R : Nat) (cs : Array Value) (out : List UInt8) (w' : World) : Prop :=
  ∃ cr, w' = w.setRow g cr ∧ Upd 0 R cs cr ∧ ∀ (j : Nat) (x : UInt8), out[j]? = some x → cr[j]? = some (Value.int .u8 (x.toNat : Int))

theorem DecEnd.nil {w : World} {g R : Nat} {cs : Array Value} {out : List UInt8} {w' : World} (h : DecEnd w g R cs out w') : DecEnd w g R cs [] w' := by
  obtain ⟨cr, h1, h2, _⟩ := h
  exact ⟨cr, h1, h2, by simp⟩

theorem DecEnd.put {w : World} {g R : Nat} {cs : Array Value} {out : List UInt8} {wr : World} (h : DecEnd w g R cs out wr)
    (T : TypeId) (hg : w.heap[g]? = some (.cells cs T (0, 0))) (hu8 : ∀ i, i < R → ∃ z : Int, cs[i]? = some (.int .u8 z)) (x : UInt8) (z : Int) (hz : z = (x.toNat : Int)) (n : Nat) (hn : n = out.length) (hl : n < R) :
    DecEnd w g R cs (out ++ [x]) (wr.setCell ⟨g, n, none⟩ (.int .u8 z)) := by
  obtain ⟨cr, hw, hupd, ht⟩ := h
  subst hw
  obtain ⟨c1, w1, s1, u1, t1⟩ := put_bytes (row_size hu8 hupd) T hg hupd ht x z hz n hn hl
  exact ⟨c1, w1, u1, t1⟩

/-- the error that a fault's place becomes -/
def errV (T : TypeId) : Option Nat → Value
  | none => .nilIface
  | some i => .iface T (.int .i64 (i : Int))

end Go.Proofs.YtemojkjcnkbpoaaGreatDoor

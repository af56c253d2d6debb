/-
  laws.sameBytes tells whether two lists of bytes are equal; it only reads. Condition: lengths below 2^62.
-/
import Derived.Test.YtemojkjcnkbpoaaGreatDoorBase
import Derived.Deep.QuietTactic
import Derived.BigQuiet
import Derived.Deep.LoopGhost
import Derived.Deep.Draws
namespace Go.Proofs.YtemojkjcnkbpoaaGreatDoor
open Go.RowKit

theorem getElem?_beq_ne {xs ys : List UInt8} (hl : xs.length = ys.length) (h : xs ≠ ys) : ∃ k, k < xs.length ∧ xs.take k = ys.take k ∧ xs[k]? ≠ ys[k]? := by
  induction xs generalizing ys with
  | nil => cases ys <;> simp_all
  | cons x xs ih =>
    cases ys with
    | nil => simp at hl
    | cons y ys =>
      by_cases e : x = y
      · subst e
        obtain ⟨k, h1, h2, h3⟩ := ih (ys := ys) (by simpa using hl) (by simpa using h)
        exact ⟨k + 1, by simpa using h1, by simp [h2], by simpa using h3⟩
      · exact ⟨0, by simp, by simp, by simpa using e⟩

theorem Rd.at {w : World} {B : Nat} {A : Option Addr} {bs : List UInt8} (h : Rd w B A bs) {k : Nat} (hk : k < bs.length) :
    ∃ b off x, A = some ⟨b, off, none⟩ ∧ b < B ∧ bs[k]? = some x ∧ w.cell? ⟨b, off + k, none⟩ = some (.int .u8 (x.toNat : Int)) := by
  rcases h with h | ⟨b, off, rfl, hb, hc⟩
  · subst h; simp at hk
  · exact ⟨b, off, bs[k], rfl, hb, List.getElem?_eq_getElem hk, hc k _ (List.getElem?_eq_getElem hk)⟩

set_option maxHeartbeats 400000 in
theorem same_any (A A' : Option Addr) (n m c d : Nat) (xs ys : List UInt8) (B B' : Nat) (w : World) (hn : n = xs.length) (hm : m = ys.length) (hx : Rd w B A xs) (hy : Rd w B' A' ys)
    (hl : xs.length ≤ 4611686018427387904) (hl' : ys.length ≤ 4611686018427387904) :
    Calls Tryz.prog 9 #[.slice A n c, .slice A' m d] w fun e w' => e = .returned (.bool (decide (xs = ys))) ∧ ∃ k, w' = w.drewN k := by
  subst hn
  subst hm
  by_cases hlen : xs.length = ys.length
  · have hneq : ((xs.length : Int) != (ys.length : Int)) = false := by simp [hlen]
    have HL := Lib.hid hlen
    clear hlen
    go_enter Tryz.func9, Tryz.ntmps9
    go_wp2
    go_loopg [13] xs.length (fun gk i wr => ∃ k : Nat, k + gk = xs.length ∧ i = .int .i64 k ∧ Hid (xs.take k = ys.take k) ∧ ∃ q, wr = w.drewN q)
    case atStart => exact ⟨0, by omega, rfl, by simp [Hid], 0, rfl⟩
    case round =>
      obtain ⟨k, hk, rfl, hpre, q, rfl⟩ := hrel
      have HK := Lib.hid hk
      have hk' : k ≤ xs.length := by omega
      clear hk
      by_cases hlt : k < xs.length
      · obtain ⟨b, off, x, rfl, hb, hx1, hc1⟩ := hx.at hlt
        obtain ⟨b', off', y, rfl, hb', hy1, hc2⟩ := hy.at (k := k) (by have := HL.out; omega)
        have HX := Lib.hid hx1
        have HY := Lib.hid hy1
        have hlt' : k < ys.length := by have := HL.out; omega
        clear hx1 hy1 hx hy
        by_cases hxy : x = y
        · subst hxy
          go_wp2
          go_quiet (fail)
          go_wp2
          go_roundg (gk - 1)
          case measure => have := HK.out; omega
          case rel =>
            refine ⟨k + 1, by have := HK.out; omega, by go_num, ?_, _, rfl⟩
            show _ = _
            rw [List.take_add_one, List.take_add_one, hpre.out, HX.out, HY.out]
        · have hne : ((x.toNat : Int) != (y.toNat : Int)) = true := by
            rw [bne_iff_ne]
            intro e
            exact hxy (UInt8.toNat_inj.1 (by omega))
          have hres : decide (xs = ys) = false := by
            rw [decide_eq_false_iff_not]
            intro e
            subst e
            rw [HX.out] at HY
            exact hxy (Option.some.inj HY.out)
          have HR := Lib.hid hres
          clear hres hxy
          go_wp2
          go_quiet (fail)
          go_wp2
          go_ret
          exact ⟨by rw [HR.out]; rfl, _, World.drewN_drewN _ _ _⟩
      · have hres : decide (xs = ys) = true := by
          rw [decide_eq_true_iff]
          have h := hpre.out
          rwa [List.take_of_length_le (by omega), List.take_of_length_le (by have := HL.out; omega)] at h
        have HR := Lib.hid hres
        clear hres
        go_wp2
        go_ret
        exact ⟨by rw [HR.out]; rfl, _, rfl⟩
  · have hneq : ((xs.length : Int) != (ys.length : Int)) = true := by rw [bne_iff_ne]; omega
    have hres : decide (xs = ys) = false := by
      rw [decide_eq_false_iff_not]
      intro e
      subst e
      exact hlen rfl
    have HR := Lib.hid hres
    clear hres hlen
    go_enter Tryz.func9, Tryz.ntmps9
    go_wp2
    go_ret
    exact ⟨by rw [HR.out]; rfl, 0, rfl⟩

end Go.Proofs.YtemojkjcnkbpoaaGreatDoor

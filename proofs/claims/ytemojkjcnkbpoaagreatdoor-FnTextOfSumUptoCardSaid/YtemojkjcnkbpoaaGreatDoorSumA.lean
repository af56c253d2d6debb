/-
  impl.SumOf at all kinds, 0 to 10; laws.isKind. Condition: at most 2 * 10^14 bytes.
-/
import Derived.Test.YtemojkjcnkbpoaaGreatDoorSumKk
import Derived.Test.YtemojkjcnkbpoaaGreatDoorShaK
namespace Go.Proofs.YtemojkjcnkbpoaaGreatDoor
open Go.RowKit
set_option linter.unusedVariables false

def rateA (k : Nat) : Nat := match k with | 7 => 144 | 8 => 136 | 9 => 104 | _ => 72
def outA (k : Nat) : Nat := match k with | 7 => 28 | 8 => 32 | 9 => 48 | _ => 64
def sumA (k : Nat) (bs : List UInt8) : List UInt8 := if k < 7 then sumK k bs else sumS (rateA k) (outA k) bs
def lenA (k : Nat) : Nat := if k < 7 then lenK k else outA k

theorem kinds4 {k : Nat} (hk : k < 11) (h7 : ¬ k < 7) : k = 7 ∨ k = 8 ∨ k = 9 ∨ k = 10 := by omega
theorem sumA_len (k : Nat) (hk : k < 11) (bs : List UInt8) : (sumA k bs).length = lenA k := by
  unfold sumA lenA
  split
  · exact sumK_len (by assumption) bs
  · exact sumS_len _ _ _
theorem lenA_le (k : Nat) : lenA k ≤ 64 ∧ 4 ≤ lenA k := by
  have := lenK_le k
  unfold lenA outA
  split
  · omega
  · split <;> omega
theorem sumOf_a (k : Nat) (hk : k < 11) (A : Option Addr) (n c : Nat) (bs : List UInt8) (w : World) (hn : n = bs.length) (h : Rd w w.heap.size A bs) (hl : bs.length ≤ 200000000000000) :
    Calls Tryz.prog 10 #[.int .i64 (k : Int), .slice A n c] w fun e w' => ∃ g d, e = .returned (.slice (some ⟨g, 0, none⟩) (lenA k) d) ∧ Own w' w.heap.size g d (sumA k bs) ∧ Below w.heap.size w w' := by
  by_cases h7 : k < 7
  · have e1 : lenA k = lenK k := if_pos h7
    have e2 : sumA k bs = sumK k bs := if_pos h7
    rw [e1, e2]
    exact sumOf_k k h7 A n c bs w hn h hl
  · rw [← sumA_len k hk bs]
    rcases kinds4 hk h7 with rfl | rfl | rfl | rfl
    · exact sumOf_hk hk_7 A n c bs w hn h hl
    · exact sumOf_hk hk_8 A n c bs w hn h hl
    · exact sumOf_hk hk_9 A n c bs w hn h hl
    · exact sumOf_hk hk_10 A n c bs w hn h hl

theorem isKind_any (a : Int) (b : Bool) (hb : b = decide (0 ≤ a ∧ a ≤ 10)) (w : World) :
    Calls Tryz.prog 4 #[.int .i64 a] w fun e w' => e = .returned (.bool b) ∧ w' = w := by
  by_cases h1 : a ≥ 0
  · by_cases h2 : a ≤ 10
    · have hb' : b = true := by rw [hb]; exact decide_eq_true ⟨by omega, h2⟩
      subst hb'
      have t1 : decide (a ≥ 0) = true := decide_eq_true h1
      have t2 : decide (a ≤ 10) = true := decide_eq_true h2
      clear hb
      go_enter Tryz.func4, Tryz.ntmps4
      go_wp2
      go_ret
      exact ⟨rfl, rfl⟩
    · have hb' : b = false := by rw [hb]; exact decide_eq_false (fun h => h2 h.2)
      subst hb'
      have t1 : decide (a ≥ 0) = true := decide_eq_true h1
      have t2 : decide (a ≤ 10) = false := decide_eq_false h2
      clear hb
      go_enter Tryz.func4, Tryz.ntmps4
      go_wp2
      go_ret
      exact ⟨rfl, rfl⟩
  · have hb' : b = false := by rw [hb]; exact decide_eq_false (fun h => h1 h.1)
    subst hb'
    have t1 : decide (a ≥ 0) = false := decide_eq_false h1
    clear hb
    go_enter Tryz.func4, Tryz.ntmps4
    go_wp2
    go_ret
    exact ⟨rfl, rfl⟩

end Go.Proofs.YtemojkjcnkbpoaaGreatDoor

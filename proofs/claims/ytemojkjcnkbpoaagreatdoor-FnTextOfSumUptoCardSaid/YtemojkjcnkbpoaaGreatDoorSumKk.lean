/-
  impl.SumOf at the kinds 0 to 6. Condition: at most 2 * 10^14 bytes.
-/
import Derived.Test.YtemojkjcnkbpoaaGreatDoorHkA
namespace Go.Proofs.YtemojkjcnkbpoaaGreatDoor
open Go.RowKit

def sumK (k : Nat) : List UInt8 → List UInt8 := match k with | 0 => sum0 | 1 => sum1 | 2 => sum2 | 3 => sum3 | 4 => sum4 | 5 => sum5 | _ => sum6
def lenK (k : Nat) : Nat := match k with | 0 => 4 | 1 => 4 | 2 => 8 | 3 => 8 | 4 => 16 | 5 => 16 | _ => 4

theorem kinds7 {k : Nat} (hk : k < 7) : k = 0 ∨ k = 1 ∨ k = 2 ∨ k = 3 ∨ k = 4 ∨ k = 5 ∨ k = 6 := by omega
theorem sumK_len {k : Nat} (hk : k < 7) (bs : List UInt8) : (sumK k bs).length = lenK k := by
  rcases kinds7 hk with rfl | rfl | rfl | rfl | rfl | rfl | rfl <;> rfl
theorem lenK_le (k : Nat) : lenK k ≤ 16 ∧ 4 ≤ lenK k := by unfold lenK; split <;> omega

theorem sumOf_k (k : Nat) (hk : k < 7) (A : Option Addr) (n c : Nat) (bs : List UInt8) (w : World) (hn : n = bs.length) (h : Rd w w.heap.size A bs) (hl : bs.length ≤ 200000000000000) :
    Calls Tryz.prog 10 #[.int .i64 (k : Int), .slice A n c] w fun e w' => ∃ g d, e = .returned (.slice (some ⟨g, 0, none⟩) (lenK k) d) ∧ Own w' w.heap.size g d (sumK k bs) ∧ Below w.heap.size w w' := by
  rcases kinds7 hk with rfl | rfl | rfl | rfl | rfl | rfl | rfl
  · exact sumOf_hk hk_0 A n c bs w hn h hl
  · exact sumOf_hk hk_1 A n c bs w hn h hl
  · exact sumOf_hk hk_2 A n c bs w hn h hl
  · exact sumOf_hk hk_3 A n c bs w hn h hl
  · exact sumOf_hk hk_4 A n c bs w hn h hl
  · exact sumOf_hk hk_5 A n c bs w hn h hl
  · exact sumOf_hk hk_6 A n c bs w hn h hl

end Go.Proofs.YtemojkjcnkbpoaaGreatDoor

/-
  impl.own returns the same bytes in a new row. Condition: at most 2 * 10^14 bytes.
-/
import Derived.Test.YtemojkjcnkbpoaaGreatDoorBase
namespace Go.Proofs.YtemojkjcnkbpoaaGreatDoor
open Go.RowKit

set_option maxHeartbeats 400000 in
theorem own_any (A : Option Addr) (n c : Nat) (bs : List UInt8) (w : World) (hn : n = bs.length) (h : Rd w w.heap.size A bs) (hl : bs.length ≤ 200000000000000) :
    Calls Tryz.prog 14 #[.slice A n c] w fun e w' => ∃ g d, e = .returned (.slice (some ⟨g, 0, none⟩) bs.length d) ∧ Own w' w.heap.size g d bs ∧ Below w.heap.size w w' := by
  have H := Lib.hid hn
  clear hn
  go_enter Tryz.func14, Tryz.ntmps14
  go_wp2_with (at_builtin; refine wpList_append_bytes rfl _ _ 22 rfl Tryz.underlying22 w.heap.size w.heap.size 0 [] bs 0 n rfl rfl (Own.empty w _ (Nat.le_refl _)) w.heap.size A c rfl H.out (h.alloc (Nat.le_refl _) _) (by simpa using hl) (by simp) ?_; intro g' c' w' h1 h2)
  go_ret
  refine ⟨g', c', rfl, h1, ?_⟩
  exact ((Below.refl _ _).alloc (Nat.le_refl _) _).grown h2 (by simp) (by simp)

end Go.Proofs.YtemojkjcnkbpoaaGreatDoor

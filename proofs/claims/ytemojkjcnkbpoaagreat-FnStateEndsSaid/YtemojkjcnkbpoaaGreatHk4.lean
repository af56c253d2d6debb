/-
  The hash of the kind 4, in the words for all kinds. No condition.
-/
import Derived.Test.YtemojkjcnkbpoaaGreatFnvH4
import Derived.Test.YtemojkjcnkbpoaaGreatHk
namespace Go.Proofs.YtemojkjcnkbpoaaGreat
open Go.RowKit Go.Shelf

theorem hk_4 : HK Tryz.prog 17 4 83 135 133 St4 sum4 := {
  nW := fun k a w => by kernel_rfl
  mW := fun k a w => by kernel_rfl
  eW := enters_of Tryz.func135 (by kernel_rfl) rfl
  nS := fun k a w => by kernel_rfl
  mS := fun k a w => by kernel_rfl
  eS := enters_of Tryz.func133 (by kernel_rfl) rfl
  keep := fun hs e => hs.keep e
  lt := fun hs => by obtain ⟨_, _, _, _, _, hs⟩ := hs; exact (Array.getElem?_eq_some_iff.1 hs).1
  blk := fun hs => by obtain ⟨_, _, _, _, _, hs⟩ := hs; exact ⟨_, _, hs, by decide, by decide⟩
  new := new_4
  write := fun h A n c bs p w hs hn hsrc hnc hc => write_4 h A n c _ bs p w hs hn hsrc.rd hnc hc
  sum := sum_4 }

end Go.Proofs.YtemojkjcnkbpoaaGreat

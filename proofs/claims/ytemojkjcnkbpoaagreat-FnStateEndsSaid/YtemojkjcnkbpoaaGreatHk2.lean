/-
  The hash of the kind 2, in the words for all kinds. No condition.
-/
import Derived.Test.YtemojkjcnkbpoaaGreatFnvH2
import Derived.Test.YtemojkjcnkbpoaaGreatHk
namespace Go.Proofs.YtemojkjcnkbpoaaGreat
open Go.RowKit Go.Shelf

theorem hk_2 : HK Tryz.prog 17 2 78 116 113 St2 sum2 := {
  nW := fun k a w => by kernel_rfl
  mW := fun k a w => by kernel_rfl
  eW := enters_of Tryz.func116 (by kernel_rfl) rfl
  nS := fun k a w => by kernel_rfl
  mS := fun k a w => by kernel_rfl
  eS := enters_of Tryz.func113 (by kernel_rfl) rfl
  keep := fun hs e => hs.keep e
  lt := fun hs => (Array.getElem?_eq_some_iff.1 hs).1
  blk := fun hs => ⟨_, _, hs, by decide, by decide⟩
  new := new_2
  write := fun h A n c bs p w hs hn hsrc hnc hc => write_2 h A n c _ bs p w hs hn hsrc.rd hnc hc
  sum := sum_2 }

end Go.Proofs.YtemojkjcnkbpoaaGreat

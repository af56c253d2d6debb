/-
  The hash of the kind 6, in the words for all kinds. No condition.
-/
import Derived.Test.YtemojkjcnkbpoaaGreatAdlH
import Derived.Test.YtemojkjcnkbpoaaGreatHk
namespace Go.Proofs.YtemojkjcnkbpoaaGreat
open Go.RowKit Go.Shelf

theorem hk_6 : HK Tryz.prog 17 6 86 152 149 St6 sum6 := {
  nW := fun k a w => by kernel_rfl
  mW := fun k a w => by kernel_rfl
  eW := enters_of Tryz.func152 (by kernel_rfl) rfl
  nS := fun k a w => by kernel_rfl
  mS := fun k a w => by kernel_rfl
  eS := enters_of Tryz.func149 (by kernel_rfl) rfl
  keep := fun hs e => hs.keep e
  lt := fun hs => (Array.getElem?_eq_some_iff.1 hs).1
  blk := fun hs => ⟨_, _, hs, by decide, by decide⟩
  new := new_6
  write := fun h A n c bs p w hs hn hsrc hnc hc => write_6 h A n c _ bs p w hs hn hsrc.rd hnc hc
  sum := sum_6 }

end Go.Proofs.YtemojkjcnkbpoaaGreat

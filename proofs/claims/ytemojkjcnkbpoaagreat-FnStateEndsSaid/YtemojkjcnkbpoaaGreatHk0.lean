/-
  The hash of the kind 0, in the words for all kinds. No condition.
-/
import Derived.Test.YtemojkjcnkbpoaaGreatFnvH0
import Derived.Test.YtemojkjcnkbpoaaGreatHk
namespace Go.Proofs.YtemojkjcnkbpoaaGreat
open Go.RowKit Go.Shelf

theorem hk_0 : HK Tryz.prog 17 0 73 96 93 St0 sum0 := {
  nW := fun k a w => by kernel_rfl
  mW := fun k a w => by kernel_rfl
  eW := enters_of Tryz.func96 (by kernel_rfl) rfl
  nS := fun k a w => by kernel_rfl
  mS := fun k a w => by kernel_rfl
  eS := enters_of Tryz.func93 (by kernel_rfl) rfl
  keep := fun hs e => hs.keep e
  lt := fun hs => (Array.getElem?_eq_some_iff.1 hs).1
  blk := fun hs => ⟨_, _, hs, by decide, by decide⟩
  new := new_0
  write := fun h A n c bs p w hs hn hsrc hnc hc => write_0 h A n c _ bs p w hs hn hsrc.rd hnc hc
  sum := sum_0 }

end Go.Proofs.YtemojkjcnkbpoaaGreat

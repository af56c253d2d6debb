/-
  Several texts in one: Hk0, Hk1, Hk2, Hk3, Hk4, Hk5, Hk6. Conditions: as each says.
-/
import Derived.Test.YtemojkjcnkbpoaaGreatDoorFnvHA
import Derived.Test.YtemojkjcnkbpoaaGreatDoorHk
import Derived.Test.YtemojkjcnkbpoaaGreatDoorAdlH
/-
  The hash of the kind 0, in the words for all kinds. No condition.
-/
namespace Go.Proofs.YtemojkjcnkbpoaaGreatDoor
open Go.RowKit Go.Shelf

theorem hk_0 : HK Tryz.prog 17 0 89 106 104 St0 sum0 := {
  nW := fun k a w => by kernel_rfl
  mW := fun k a w => by kernel_rfl
  eW := enters_of Tryz.func106 (by kernel_rfl) rfl
  nS := fun k a w => by kernel_rfl
  mS := fun k a w => by kernel_rfl
  eS := enters_of Tryz.func104 (by kernel_rfl) rfl
  keep := fun hs e => hs.keep e
  lt := fun hs => (Array.getElem?_eq_some_iff.1 hs).1
  blk := fun hs => ⟨_, _, hs, by decide, by decide⟩
  new := new_0
  write := fun h A n c bs p w hs hn hsrc hnc hc => write_0 h A n c _ bs p w hs hn hsrc.rd hnc hc
  sum := sum_0 }

end Go.Proofs.YtemojkjcnkbpoaaGreatDoor

/-
  The hash of the kind 1, in the words for all kinds. No condition.
-/
namespace Go.Proofs.YtemojkjcnkbpoaaGreatDoor
open Go.RowKit Go.Shelf

theorem hk_1 : HK Tryz.prog 17 1 91 113 111 St1 sum1 := {
  nW := fun k a w => by kernel_rfl
  mW := fun k a w => by kernel_rfl
  eW := enters_of Tryz.func113 (by kernel_rfl) rfl
  nS := fun k a w => by kernel_rfl
  mS := fun k a w => by kernel_rfl
  eS := enters_of Tryz.func111 (by kernel_rfl) rfl
  keep := fun hs e => hs.keep e
  lt := fun hs => (Array.getElem?_eq_some_iff.1 hs).1
  blk := fun hs => ⟨_, _, hs, by decide, by decide⟩
  new := new_1
  write := fun h A n c bs p w hs hn hsrc hnc hc => write_1 h A n c _ bs p w hs hn hsrc.rd hnc hc
  sum := sum_1 }

end Go.Proofs.YtemojkjcnkbpoaaGreatDoor

/-
  The hash of the kind 2, in the words for all kinds. No condition.
-/
namespace Go.Proofs.YtemojkjcnkbpoaaGreatDoor
open Go.RowKit Go.Shelf

theorem hk_2 : HK Tryz.prog 17 2 94 119 117 St2 sum2 := {
  nW := fun k a w => by kernel_rfl
  mW := fun k a w => by kernel_rfl
  eW := enters_of Tryz.func119 (by kernel_rfl) rfl
  nS := fun k a w => by kernel_rfl
  mS := fun k a w => by kernel_rfl
  eS := enters_of Tryz.func117 (by kernel_rfl) rfl
  keep := fun hs e => hs.keep e
  lt := fun hs => (Array.getElem?_eq_some_iff.1 hs).1
  blk := fun hs => ⟨_, _, hs, by decide, by decide⟩
  new := new_2
  write := fun h A n c bs p w hs hn hsrc hnc hc => write_2 h A n c _ bs p w hs hn hsrc.rd hnc hc
  sum := sum_2 }

end Go.Proofs.YtemojkjcnkbpoaaGreatDoor

/-
  The hash of the kind 3, in the words for all kinds. No condition.
-/
namespace Go.Proofs.YtemojkjcnkbpoaaGreatDoor
open Go.RowKit Go.Shelf

theorem hk_3 : HK Tryz.prog 17 3 96 126 124 St3 sum3 := {
  nW := fun k a w => by kernel_rfl
  mW := fun k a w => by kernel_rfl
  eW := enters_of Tryz.func126 (by kernel_rfl) rfl
  nS := fun k a w => by kernel_rfl
  mS := fun k a w => by kernel_rfl
  eS := enters_of Tryz.func124 (by kernel_rfl) rfl
  keep := fun hs e => hs.keep e
  lt := fun hs => (Array.getElem?_eq_some_iff.1 hs).1
  blk := fun hs => ⟨_, _, hs, by decide, by decide⟩
  new := new_3
  write := fun h A n c bs p w hs hn hsrc hnc hc => write_3 h A n c _ bs p w hs hn hsrc.rd hnc hc
  sum := sum_3 }

end Go.Proofs.YtemojkjcnkbpoaaGreatDoor

/-
  The hash of the kind 4, in the words for all kinds. No condition.
-/
namespace Go.Proofs.YtemojkjcnkbpoaaGreatDoor
open Go.RowKit Go.Shelf

theorem hk_4 : HK Tryz.prog 17 4 99 131 130 St4 sum4 := {
  nW := fun k a w => by kernel_rfl
  mW := fun k a w => by kernel_rfl
  eW := enters_of Tryz.func131 (by kernel_rfl) rfl
  nS := fun k a w => by kernel_rfl
  mS := fun k a w => by kernel_rfl
  eS := enters_of Tryz.func130 (by kernel_rfl) rfl
  keep := fun hs e => hs.keep e
  lt := fun hs => by obtain ⟨_, _, _, _, _, hs⟩ := hs; exact (Array.getElem?_eq_some_iff.1 hs).1
  blk := fun hs => by obtain ⟨_, _, _, _, _, hs⟩ := hs; exact ⟨_, _, hs, by decide, by decide⟩
  new := new_4
  write := fun h A n c bs p w hs hn hsrc hnc hc => write_4 h A n c _ bs p w hs hn hsrc.rd hnc hc
  sum := sum_4 }

end Go.Proofs.YtemojkjcnkbpoaaGreatDoor

/-
  The hash of the kind 5, in the words for all kinds. No condition.
-/
namespace Go.Proofs.YtemojkjcnkbpoaaGreatDoor
open Go.RowKit Go.Shelf

theorem hk_5 : HK Tryz.prog 17 5 101 137 136 St5 sum5 := {
  nW := fun k a w => by kernel_rfl
  mW := fun k a w => by kernel_rfl
  eW := enters_of Tryz.func137 (by kernel_rfl) rfl
  nS := fun k a w => by kernel_rfl
  mS := fun k a w => by kernel_rfl
  eS := enters_of Tryz.func136 (by kernel_rfl) rfl
  keep := fun hs e => hs.keep e
  lt := fun hs => by obtain ⟨_, _, _, _, _, hs⟩ := hs; exact (Array.getElem?_eq_some_iff.1 hs).1
  blk := fun hs => by obtain ⟨_, _, _, _, _, hs⟩ := hs; exact ⟨_, _, hs, by decide, by decide⟩
  new := new_5
  write := fun h A n c bs p w hs hn hsrc hnc hc => write_5 h A n c _ bs p w hs hn hsrc.rd hnc hc
  sum := sum_5 }

end Go.Proofs.YtemojkjcnkbpoaaGreatDoor

/-
  The hash of the kind 6, in the words for all kinds. No condition.
-/
namespace Go.Proofs.YtemojkjcnkbpoaaGreatDoor
open Go.RowKit Go.Shelf

theorem hk_6 : HK Tryz.prog 17 6 102 142 140 St6 sum6 := {
  nW := fun k a w => by kernel_rfl
  mW := fun k a w => by kernel_rfl
  eW := enters_of Tryz.func142 (by kernel_rfl) rfl
  nS := fun k a w => by kernel_rfl
  mS := fun k a w => by kernel_rfl
  eS := enters_of Tryz.func140 (by kernel_rfl) rfl
  keep := fun hs e => hs.keep e
  lt := fun hs => (Array.getElem?_eq_some_iff.1 hs).1
  blk := fun hs => ⟨_, _, hs, by decide, by decide⟩
  new := new_6
  write := fun h A n c bs p w hs hn hsrc hnc hc => write_6 h A n c _ bs p w hs hn hsrc.rd hnc hc
  sum := sum_6 }

end Go.Proofs.YtemojkjcnkbpoaaGreatDoor


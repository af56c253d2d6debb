/-
  The hashes of the kinds 7 to 10 (SHA-3), in the words for all kinds: HK. No condition.
-/
import Derived.Test.YtemojkjcnkbpoaaGreatDoorShaZ
import Derived.Test.YtemojkjcnkbpoaaGreatDoorHk
namespace Go.Proofs.YtemojkjcnkbpoaaGreatDoor
open Go.RowKit Go.Shelf
open Spo
set_option linter.unusedVariables false

theorem zeros_len : zeros.length = 200 := by unfold zeros; rw [List.length_replicate]
/-- the sponge behind bs -/
def spo (rate : Nat) (bs : List UInt8) : S := absorb kf rate (zeros, 0) bs
theorem spo_ok (rate : Nat) (h0 : 0 < rate) (bs : List UInt8) : (spo rate bs).1.length = 200 ∧ (spo rate bs).2 < rate := absorb_ok kf rate kf_len h0 (zeros, 0) bs ⟨zeros_len, h0⟩
def StS (rate out : Nat) (w : World) (h : Nat) (bs : List UInt8) : Prop := DG w h 111 (spo rate bs).1 (spo rate bs).2 rate 6 out 0 []
def sumS (rate out : Nat) (bs : List UInt8) : List UInt8 := shaSum (spo rate bs).1 (spo rate bs).2 rate out
theorem sumS_len (rate out : Nat) (bs : List UInt8) : (sumS rate out bs).length = out := by unfold sumS shaSum; rw [sqz_len]
theorem writeS {rate out : Nat} (h0 : 0 < rate) (hr : rate ≤ 200) (ho : OutOk out) (h : Nat) (A : Option Addr) (n c : Nat) (bs p : List UInt8) (w : World) (hs : StS rate out w h bs) (hn : n = p.length) (hsrc : Src w h A p) (hnc : n ≤ c) (hc : c ≤ 9223372036854775807) :
    Calls Tryz.prog 68 #[.pointer (some ⟨h, 0, none⟩), .slice A n c] w fun e w' => e = .returned (.tuple #[.int .i64 (n : Int), .nilIface]) ∧ StS rate out w' h (bs ++ p) ∧ w.grownBy w' (some h) := by
  refine (sha3Write_any hs (by unfold OutOk at ho; omega) A n c p hn hsrc hnc hc (spo_ok rate h0 bs).2 hr).mono ?_
  rintro e w' ⟨h1, h2, h3⟩
  refine ⟨h1, ?_, h3⟩
  unfold StS spo
  rw [absorb_append]
  exact h2

theorem sumS_any {rate out : Nat} (h0 : 0 < rate) (hr : rate ≤ 200) (ho : OutOk out) (h : Nat) (bs : List UInt8) (w : World) (hs : StS rate out w h bs) :
    Calls Tryz.prog 67 #[.pointer (some ⟨h, 0, none⟩), .slice none 0 0] w fun e w' => ∃ g c, e = .returned (.slice (some ⟨g, 0, none⟩) (sumS rate out bs).length c) ∧ Own w' w.heap.size g c (sumS rate out bs) ∧ Below w.heap.size w w' := by
  rw [sumS_len]
  exact sSum_any hs (spo_ok rate h0 bs).2 hr ho

theorem hk_S {kind : Int} {rate out : Nat} (h0 : 0 < rate) (hr : rate ≤ 200) (ho : OutOk out)
    (new : ∀ w : World, Calls Tryz.prog 17 #[.int .i64 kind] w fun e w' => ∃ h, e = .returned (.iface 72 (.pointer (some ⟨h, 0, none⟩))) ∧ StS rate out w' h [] ∧ w.heap.size ≤ h ∧ h < w'.heap.size ∧ Below w.heap.size w w') :
    HK Tryz.prog 17 kind 72 68 67 (StS rate out) (sumS rate out) := {
  nW := fun k a w => by kernel_rfl
  mW := fun k a w => by kernel_rfl
  eW := enters_of Tryz.func68 (by kernel_rfl) rfl
  nS := fun k a w => by kernel_rfl
  mS := fun k a w => by kernel_rfl
  eS := enters_of Tryz.func67 (by kernel_rfl) rfl
  keep := fun hs e => DG.keep hs e
  lt := fun hs => DG.lt hs
  blk := fun hs => ⟨_, _, DG.blk hs, by decide, by decide⟩
  new := new
  write := fun h A n c bs p w hs hn hsrc hnc hc => writeS h0 hr ho h A n c bs p w hs hn hsrc hnc hc
  sum := sumS_any h0 hr ho }

set_option maxHeartbeats 1000000 in
theorem newHash_7 (w : World) : Calls Tryz.prog 17 #[.int .i64 7] w fun e w' => ∃ h, e = .returned (.iface 72 (.pointer (some ⟨h, 0, none⟩))) ∧ StS 144 28 w' h [] ∧ w.heap.size ≤ h ∧ h < w'.heap.size ∧ Below w.heap.size w w' := by
  have X := Lib.hid (newS224 w)
  go_enter Tryz.func17, Tryz.ntmps17
  go_wp2_with fail
  refine X.out.mono ?_
  rintro e w1 ⟨h, rfl, D1, l1, l2, B1⟩
  have HD := Lib.hid D1
  have HB := Lib.hid B1
  clear D1 B1 X
  go_wp2_with fail
  go_ret
  exact ⟨h, rfl, HD.out, l1, l2, HB.out⟩
theorem hk_7 : HK Tryz.prog 17 7 72 68 67 (StS 144 28) (sumS 144 28) := hk_S (by decide) (by decide) (by unfold OutOk; decide) newHash_7

set_option maxHeartbeats 1000000 in
theorem newHash_8 (w : World) : Calls Tryz.prog 17 #[.int .i64 8] w fun e w' => ∃ h, e = .returned (.iface 72 (.pointer (some ⟨h, 0, none⟩))) ∧ StS 136 32 w' h [] ∧ w.heap.size ≤ h ∧ h < w'.heap.size ∧ Below w.heap.size w w' := by
  have X := Lib.hid (newS256 w)
  go_enter Tryz.func17, Tryz.ntmps17
  go_wp2_with fail
  refine X.out.mono ?_
  rintro e w1 ⟨h, rfl, D1, l1, l2, B1⟩
  have HD := Lib.hid D1
  have HB := Lib.hid B1
  clear D1 B1 X
  go_wp2_with fail
  go_ret
  exact ⟨h, rfl, HD.out, l1, l2, HB.out⟩
theorem hk_8 : HK Tryz.prog 17 8 72 68 67 (StS 136 32) (sumS 136 32) := hk_S (by decide) (by decide) (by unfold OutOk; decide) newHash_8

set_option maxHeartbeats 1000000 in
theorem newHash_9 (w : World) : Calls Tryz.prog 17 #[.int .i64 9] w fun e w' => ∃ h, e = .returned (.iface 72 (.pointer (some ⟨h, 0, none⟩))) ∧ StS 104 48 w' h [] ∧ w.heap.size ≤ h ∧ h < w'.heap.size ∧ Below w.heap.size w w' := by
  have X := Lib.hid (newS384 w)
  go_enter Tryz.func17, Tryz.ntmps17
  go_wp2_with fail
  refine X.out.mono ?_
  rintro e w1 ⟨h, rfl, D1, l1, l2, B1⟩
  have HD := Lib.hid D1
  have HB := Lib.hid B1
  clear D1 B1 X
  go_wp2_with fail
  go_ret
  exact ⟨h, rfl, HD.out, l1, l2, HB.out⟩
theorem hk_9 : HK Tryz.prog 17 9 72 68 67 (StS 104 48) (sumS 104 48) := hk_S (by decide) (by decide) (by unfold OutOk; decide) newHash_9

set_option maxHeartbeats 1000000 in
theorem newHash_10 (w : World) : Calls Tryz.prog 17 #[.int .i64 10] w fun e w' => ∃ h, e = .returned (.iface 72 (.pointer (some ⟨h, 0, none⟩))) ∧ StS 72 64 w' h [] ∧ w.heap.size ≤ h ∧ h < w'.heap.size ∧ Below w.heap.size w w' := by
  have X := Lib.hid (newS512 w)
  go_enter Tryz.func17, Tryz.ntmps17
  go_wp2_with fail
  refine X.out.mono ?_
  rintro e w1 ⟨h, rfl, D1, l1, l2, B1⟩
  have HD := Lib.hid D1
  have HB := Lib.hid B1
  clear D1 B1 X
  go_wp2_with fail
  go_ret
  exact ⟨h, rfl, HD.out, l1, l2, HB.out⟩
theorem hk_10 : HK Tryz.prog 17 10 72 68 67 (StS 72 64) (sumS 72 64) := hk_S (by decide) (by decide) (by unfold OutOk; decide) newHash_10

end Go.Proofs.YtemojkjcnkbpoaaGreatDoor

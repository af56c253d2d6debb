/-
  The hashes of the kinds 7 to 10 (SHA-3), in the words for all kinds: HK and MK. No condition.
-/
import Derived.Test.YtemojkjcnkbpoaaGreatShaZ
import Derived.Test.YtemojkjcnkbpoaaGreatShaO2
import Derived.Test.YtemojkjcnkbpoaaGreatHk
import Derived.Test.YtemojkjcnkbpoaaGreatSt
namespace Go.Proofs.YtemojkjcnkbpoaaGreat
open Go.RowKit Go.Shelf
open Spo
set_option linter.unusedVariables false

theorem zeros_len : zeros.length = 200 := by unfold zeros; rw [List.length_replicate]
/-- the sponge behind bs -/
def spo (rate : Nat) (bs : List UInt8) : S := absorb kf rate (zeros, 0) bs
theorem spo_ok (rate : Nat) (h0 : 0 < rate) (bs : List UInt8) : (spo rate bs).1.length = 200 ∧ (spo rate bs).2 < rate := absorb_ok kf rate kf_len h0 (zeros, 0) bs ⟨zeros_len, h0⟩
def StS (rate out : Nat) (w : World) (h : Nat) (bs : List UInt8) : Prop := DG w h 95 (spo rate bs).1 (spo rate bs).2 rate 6 out 0 []
def sumS (rate out : Nat) (bs : List UInt8) : List UInt8 := shaSum (spo rate bs).1 (spo rate bs).2 rate out
theorem sumS_len (rate out : Nat) (bs : List UInt8) : (sumS rate out bs).length = out := by unfold sumS shaSum; rw [sqz_len]
def stateS (rate : Nat) (bs : List UInt8) : List UInt8 := mag8 ++ [UInt8.ofNat rate] ++ (spo rate bs).1 ++ [UInt8.ofNat (spo rate bs).2, 0]
theorem stateS_len (rate : Nat) (h0 : 0 < rate) (bs : List UInt8) : (stateS rate bs).length = 207 := by
  have := (spo_ok rate h0 bs).1
  unfold stateS mag8
  simp only [List.length_append, List.length_cons, List.length_nil, this]

theorem writeS {rate out : Nat} (h0 : 0 < rate) (hr : rate ≤ 200) (ho : OutOk out) (h : Nat) (A : Option Addr) (n c : Nat) (bs p : List UInt8) (w : World) (hs : StS rate out w h bs) (hn : n = p.length) (hsrc : Src w h A p) (hnc : n ≤ c) (hc : c ≤ 9223372036854775807) :
    Calls Tryz.prog 63 #[.pointer (some ⟨h, 0, none⟩), .slice A n c] w fun e w' => e = .returned (.tuple #[.int .i64 (n : Int), .nilIface]) ∧ StS rate out w' h (bs ++ p) ∧ w.grownBy w' (some h) := by
  refine (sha3Write_any hs (by unfold OutOk at ho; omega) A n c p hn hsrc hnc hc (spo_ok rate h0 bs).2 hr).mono ?_
  rintro e w' ⟨h1, h2, h3⟩
  refine ⟨h1, ?_, h3⟩
  unfold StS spo
  rw [absorb_append]
  exact h2

theorem sumS_any {rate out : Nat} (h0 : 0 < rate) (hr : rate ≤ 200) (ho : OutOk out) (h : Nat) (bs : List UInt8) (w : World) (hs : StS rate out w h bs) :
    Calls Tryz.prog 61 #[.pointer (some ⟨h, 0, none⟩), .slice none 0 0] w fun e w' => ∃ g c, e = .returned (.slice (some ⟨g, 0, none⟩) (sumS rate out bs).length c) ∧ Own w' w.heap.size g c (sumS rate out bs) ∧ Below w.heap.size w w' := by
  rw [sumS_len]
  exact sSum_any hs (spo_ok rate h0 bs).2 hr ho

theorem marS {rate out : Nat} (h0 : 0 < rate) (hr : rate ≤ 200) (ho : OutOk out) (h : Nat) (bs : List UInt8) (w : World) (hs : StS rate out w h bs) :
    Calls Tryz.prog 58 #[.pointer (some ⟨h, 0, none⟩)] w fun e w' => ∃ g c, e = .returned (.tuple #[.slice (some ⟨g, 0, none⟩) (stateS rate bs).length c, .nilIface]) ∧ Own w' w.heap.size g c (stateS rate bs) ∧ Below w.heap.size w w' := by
  have hn := (spo_ok rate h0 bs).2
  have e1 : (UInt8.ofNat (spo rate bs).2).toNat = (spo rate bs).2 := by rw [UInt8.toNat_ofNat']; omega
  have e2 : (UInt8.ofNat rate).toNat = rate := by rw [UInt8.toNat_ofNat']; omega
  have d : DG w h 95 (spo rate bs).1 (UInt8.ofNat (spo rate bs).2).toNat (UInt8.ofNat rate).toNat 6 out 0 [] := by
    rw [e1, e2]
    exact hs
  exact sMar_any (UInt8.ofNat (spo rate bs).2) (UInt8.ofNat rate) d (by unfold OutOk at ho; omega)

theorem hk_S {kind : Int} {rate out : Nat} (h0 : 0 < rate) (hr : rate ≤ 200) (ho : OutOk out)
    (new : ∀ w : World, Calls Tryz.prog 17 #[.int .i64 kind] w fun e w' => ∃ h, e = .returned (.iface 61 (.pointer (some ⟨h, 0, none⟩))) ∧ StS rate out w' h [] ∧ w.heap.size ≤ h ∧ h < w'.heap.size ∧ Below w.heap.size w w') :
    HK Tryz.prog 17 kind 61 63 61 (StS rate out) (sumS rate out) := {
  nW := fun k a w => by kernel_rfl
  mW := fun k a w => by kernel_rfl
  eW := enters_of Tryz.func63 (by kernel_rfl) rfl
  nS := fun k a w => by kernel_rfl
  mS := fun k a w => by kernel_rfl
  eS := enters_of Tryz.func61 (by kernel_rfl) rfl
  keep := fun hs e => DG.keep hs e
  lt := fun hs => DG.lt hs
  blk := fun hs => ⟨_, _, DG.blk hs, by decide, by decide⟩
  new := new
  write := fun h A n c bs p w hs hn hsrc hnc hc => writeS h0 hr ho h A n c bs p w hs hn hsrc hnc hc
  sum := sumS_any h0 hr ho }

theorem mk_S {rate out : Nat} (h0 : 0 < rate) (hr : rate ≤ 200) (ho : OutOk out) : MK Tryz.prog 61 58 (StS rate out) (stateS rate) := {
  ta := fun v w => by kernel_rfl
  nM := fun k a w => by kernel_rfl
  mM := fun k a w => by kernel_rfl
  eM := enters_of Tryz.func58 (by kernel_rfl) rfl
  mar := marS h0 hr ho }

set_option maxHeartbeats 1000000 in
theorem newHash_7 (w : World) : Calls Tryz.prog 17 #[.int .i64 7] w fun e w' => ∃ h, e = .returned (.iface 61 (.pointer (some ⟨h, 0, none⟩))) ∧ StS 144 28 w' h [] ∧ w.heap.size ≤ h ∧ h < w'.heap.size ∧ Below w.heap.size w w' := by
  have X := Lib.hid (newS224 w)
  go_enter Tryz.func17, Tryz.ntmps17
  go_wp2_with fail
  refine X.out.mono ?_
  rintro e w1 ⟨h, rfl, D1, l1, l2, B1⟩
  have HD := Lib.hid D1
  have HB := Lib.hid B1
  clear D1 B1 X
  go_wp2_with fail
  go_ret
  exact ⟨h, rfl, HD.out, l1, l2, HB.out⟩
theorem hk_7 : HK Tryz.prog 17 7 61 63 61 (StS 144 28) (sumS 144 28) := hk_S (by decide) (by decide) (by unfold OutOk; decide) newHash_7
theorem mk_7 : MK Tryz.prog 61 58 (StS 144 28) (stateS 144) := mk_S (by decide) (by decide) (by unfold OutOk; decide)

set_option maxHeartbeats 1000000 in
theorem newHash_8 (w : World) : Calls Tryz.prog 17 #[.int .i64 8] w fun e w' => ∃ h, e = .returned (.iface 61 (.pointer (some ⟨h, 0, none⟩))) ∧ StS 136 32 w' h [] ∧ w.heap.size ≤ h ∧ h < w'.heap.size ∧ Below w.heap.size w w' := by
  have X := Lib.hid (newS256 w)
  go_enter Tryz.func17, Tryz.ntmps17
  go_wp2_with fail
  refine X.out.mono ?_
  rintro e w1 ⟨h, rfl, D1, l1, l2, B1⟩
  have HD := Lib.hid D1
  have HB := Lib.hid B1
  clear D1 B1 X
  go_wp2_with fail
  go_ret
  exact ⟨h, rfl, HD.out, l1, l2, HB.out⟩
theorem hk_8 : HK Tryz.prog 17 8 61 63 61 (StS 136 32) (sumS 136 32) := hk_S (by decide) (by decide) (by unfold OutOk; decide) newHash_8
theorem mk_8 : MK Tryz.prog 61 58 (StS 136 32) (stateS 136) := mk_S (by decide) (by decide) (by unfold OutOk; decide)

set_option maxHeartbeats 1000000 in
theorem newHash_9 (w : World) : Calls Tryz.prog 17 #[.int .i64 9] w fun e w' => ∃ h, e = .returned (.iface 61 (.pointer (some ⟨h, 0, none⟩))) ∧ StS 104 48 w' h [] ∧ w.heap.size ≤ h ∧ h < w'.heap.size ∧ Below w.heap.size w w' := by
  have X := Lib.hid (newS384 w)
  go_enter Tryz.func17, Tryz.ntmps17
  go_wp2_with fail
  refine X.out.mono ?_
  rintro e w1 ⟨h, rfl, D1, l1, l2, B1⟩
  have HD := Lib.hid D1
  have HB := Lib.hid B1
  clear D1 B1 X
  go_wp2_with fail
  go_ret
  exact ⟨h, rfl, HD.out, l1, l2, HB.out⟩
theorem hk_9 : HK Tryz.prog 17 9 61 63 61 (StS 104 48) (sumS 104 48) := hk_S (by decide) (by decide) (by unfold OutOk; decide) newHash_9
theorem mk_9 : MK Tryz.prog 61 58 (StS 104 48) (stateS 104) := mk_S (by decide) (by decide) (by unfold OutOk; decide)

set_option maxHeartbeats 1000000 in
theorem newHash_10 (w : World) : Calls Tryz.prog 17 #[.int .i64 10] w fun e w' => ∃ h, e = .returned (.iface 61 (.pointer (some ⟨h, 0, none⟩))) ∧ StS 72 64 w' h [] ∧ w.heap.size ≤ h ∧ h < w'.heap.size ∧ Below w.heap.size w w' := by
  have X := Lib.hid (newS512 w)
  go_enter Tryz.func17, Tryz.ntmps17
  go_wp2_with fail
  refine X.out.mono ?_
  rintro e w1 ⟨h, rfl, D1, l1, l2, B1⟩
  have HD := Lib.hid D1
  have HB := Lib.hid B1
  clear D1 B1 X
  go_wp2_with fail
  go_ret
  exact ⟨h, rfl, HD.out, l1, l2, HB.out⟩
theorem hk_10 : HK Tryz.prog 17 10 61 63 61 (StS 72 64) (sumS 72 64) := hk_S (by decide) (by decide) (by unfold OutOk; decide) newHash_10
theorem mk_10 : MK Tryz.prog 61 58 (StS 72 64) (stateS 72) := mk_S (by decide) (by decide) (by unfold OutOk; decide)

end Go.Proofs.YtemojkjcnkbpoaaGreat

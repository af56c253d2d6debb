/-
  Several texts in one: FnvH0, FnvH1, FnvH2, FnvH3, FnvH4, FnvH5. Conditions: as each says.
-/
import Derived.Test.YtemojkjcnkbpoaaGreatDoorFnv
import Derived.Test.YtemojkjcnkbpoaaGreatDoorSame
import Derived.Test.YtemojkjcnkbpoaaGreatDoorApp
import Derived.Test.YtemojkjcnkbpoaaGreatDoorBE
import Derived.Lib.EndianBits
import Derived.Deep.LoopGhost
import Derived.Test.YtemojkjcnkbpoaaGreatDoorFnvW
import Derived.Test.YtemojkjcnkbpoaaGreatDoorMul
import Derived.Deep.DeepCutAuto
import Derived.Deep.QuietTactic
import Derived.BigQuiet
import Derived.RegionTactic
import Derived.BigRegion
/-
  hash/fnv's hash of the kind 0: New, Write, Sum. No condition but that the block is such a hash.
-/
namespace Go.Proofs.YtemojkjcnkbpoaaGreatDoor
open Go.RowKit

def St0 (w : World) (h : Nat) (bs : List UInt8) : Prop := w.heap[h]? = some (.cells #[.int .u32 (Fnv.sum 0 bs : Int)] 88 (0, 0))
def sum0 (bs : List UInt8) : List UInt8 := be32 (Fnv.sum 0 bs)
theorem St0.keep {w w' : World} {h : Nat} {bs : List UInt8} (hs : St0 w h bs) (e : w'.heap[h]? = w.heap[h]?) : St0 w' h bs := e.trans hs

set_option maxHeartbeats 400000 in
theorem new_0 (w : World) : Calls Tryz.prog 17 #[.int .i64 0] w fun e w' => ∃ h, e = .returned (.iface 89 (.pointer (some ⟨h, 0, none⟩))) ∧ St0 w' h [] ∧ w.heap.size ≤ h ∧ h < w'.heap.size ∧ Below w.heap.size w w' := by
  go_enter Tryz.func17, Tryz.ntmps17
  go_wp2
  go_ret
  exact ⟨w.heap.size, rfl, heap_alloc_new w _, Nat.le_refl _, by simp, (Below.refl _ _).alloc (Nat.le_refl _) _⟩

set_option maxHeartbeats 1000000 in
theorem write_0 (h : Nat) (A : Option Addr) (n c B : Nat) (bs p : List UInt8) (w : World) (hst : St0 w h bs) (hn : n = p.length) (hr : Rd w B A p) (hnc : n ≤ c) (hc : c ≤ 9223372036854775807) :
    Calls Tryz.prog 106 #[.pointer (some ⟨h, 0, none⟩), .slice A n c] w fun e w' => e = .returned (.tuple #[.int .i64 (n : Int), .nilIface]) ∧ St0 w' h (bs ++ p) ∧ w.grownBy w' (some h) := by
  have hlt : Fnv.sum 0 bs < 4294967296 := by have := Fnv.sum_lt 0 bs (by omega); rwa [Fnv.md0] at this
  have hcell : w.cell? ⟨h, 0, none⟩ = some (.int .u32 (Fnv.sum 0 bs : Int)) := by rw [cell_of_row w h 0 _ _ _ hst]; rfl
  have hfz : w.frozen? ⟨h, 0, none⟩ = false := frozen_of_row w h 0 _ _ hst
  have hfin : Fnv.sum 0 (bs ++ p) = Fnv.run 0 (Fnv.sum 0 bs) p := Fnv.sum_append _ _ _
  have HST := Lib.hid hst
  have HN := Lib.hid hn
  have HF := Lib.hid hfin
  clear hst hn hfin
  obtain ⟨h0, e0⟩ : ∃ h0, Fnv.sum 0 bs = h0 := ⟨_, rfl⟩
  rw [e0] at hlt hcell HF
  clear e0
  obtain ⟨hb, rfl⟩ : ∃ hb : Nat, hb = h := ⟨_, rfl⟩
  go_enter Tryz.func106, Tryz.ntmps106
  go_wp2
  go_loopg [6, 14] n (fun gk v ix wr => ∃ (i h : Nat), i + gk = n ∧ ix = .int .i64 (i : Int) ∧ v = .int .u32 (h : Int) ∧ h < 4294967296 ∧ Hid (Fnv.run 0 h (p.drop i) = Fnv.run 0 h0 p) ∧ wr = w)
  case atStart => exact ⟨0, h0, by omega, rfl, rfl, hlt, rfl, rfl⟩
  case round =>
    obtain ⟨i, h, hi, rfl, rfl, hh, hrun, rfl⟩ := hrel
    have HI := Lib.hid hi
    have hin : i ≤ n := by omega
    clear hi
    by_cases hlti : i < n
    · obtain ⟨b, off, x, rfl, _, hx, hcx⟩ := hr.at (k := i) (by have := HN.out; omega)
      have hxb := x.toNat_lt
      have hdrop : p.drop i = x :: p.drop (i + 1) := by
        obtain ⟨hl, he⟩ := List.getElem?_eq_some_iff.1 hx
        rw [List.drop_eq_getElem_cons hl, he]
      have hr2 := hrun.out
      rw [hdrop, Fnv.run] at hr2
      have o1 : IntKind.u32.wrap ((h : Int) * 16777619) = ((h * 16777619 % 4294967296 : Nat) : Int) := by rw [IntKind.wrap_u32]; omega
      obtain ⟨y, hy⟩ : ∃ y, h * 16777619 % 4294967296 = y := ⟨_, rfl⟩
      rw [hy] at o1
      have hyb : y < 4294967296 := by rw [← hy]; exact Nat.mod_lt _ (by omega)
      have o2 : bits .xor .u32 (y : Int) (x.toNat : Int) = ((y ^^^ x.toNat : Nat) : Int) := u32_xor_nat _ _ hyb (by omega)
      have hst : Fnv.step 0 h x = y ^^^ x.toNat := by rw [← hy, Fnv.step0]
      have hsb := Fnv.step_lt 0 h x
      rw [hst] at hr2 hsb
      rw [Fnv.md0] at hsb
      have HR2 := Lib.hid hr2
      have hsb' : y ^^^ x.toNat < 4294967296 := hsb
      have HSB := Lib.hid hsb'
      clear hst hr2 hdrop hx hy hsb hsb' hrun
      go_wp2
      go_roundg (gk - 1)
      case measure => have := HI.out; omega
      case rel => exact ⟨i + 1, y ^^^ x.toNat, by have := HI.out; omega, by go_num, rfl, HSB.out, HR2.out, rfl⟩
    · have hd : Fnv.run 0 h0 p = h := by
        have := hrun.out
        rw [List.drop_eq_nil_of_le (by have := HN.out; omega), Fnv.run] at this
        exact this.symm
      have HD := Lib.hid hd
      clear hd
      go_wp2
      go_ret2
      refine ⟨rfl, ?_, ⟨rfl, rfl, rfl, by simp [World.setCell], fun j _ hj => heap_setCell_other _ _ _ _ (fun e => hj (by rw [e]))⟩⟩
      show (World.setCell _ _ _).heap[hb]? = _
      rw [heap_setCell_same _ hb 0 _ _ _ HST.out, HF.out, HD.out]
      rfl

set_option maxHeartbeats 400000 in
theorem sum_0 (h : Nat) (bs : List UInt8) (w : World) (hst : St0 w h bs) :
    Calls Tryz.prog 104 #[.pointer (some ⟨h, 0, none⟩), .slice none 0 0] w fun e w' => ∃ g c, e = .returned (.slice (some ⟨g, 0, none⟩) (sum0 bs).length c) ∧ Own w' w.heap.size g c (sum0 bs) ∧ Below w.heap.size w w' := by
  have hlt : Fnv.sum 0 bs < 4294967296 := by have := Fnv.sum_lt 0 bs (by omega); rwa [Fnv.md0] at this
  have hcell : w.cell? ⟨h, 0, none⟩ = some (.int .u32 (Fnv.sum 0 bs : Int)) := by rw [cell_of_row w h 0 _ _ _ hst]; rfl
  have HST := Lib.hid hst
  clear hst
  unfold sum0
  generalize Fnv.sum 0 bs = D at *
  go_enter Tryz.func104, Tryz.ntmps104
  go_wp2_with fail
  refine (beAppend32_nil D _ hlt).mono ?_
  rintro e w1 ⟨g, c, rfl, h1, h2⟩
  go_wp2_with fail
  go_ret
  exact ⟨g, c, rfl, h1, h2⟩

end Go.Proofs.YtemojkjcnkbpoaaGreatDoor

/-
  hash/fnv's hash of the kind 1: New, Write, Sum. No condition but that the block is such a hash.
-/
namespace Go.Proofs.YtemojkjcnkbpoaaGreatDoor
open Go.RowKit

def St1 (w : World) (h : Nat) (bs : List UInt8) : Prop := w.heap[h]? = some (.cells #[.int .u32 (Fnv.sum 1 bs : Int)] 90 (0, 0))
def sum1 (bs : List UInt8) : List UInt8 := be32 (Fnv.sum 1 bs)
theorem St1.keep {w w' : World} {h : Nat} {bs : List UInt8} (hs : St1 w h bs) (e : w'.heap[h]? = w.heap[h]?) : St1 w' h bs := e.trans hs

set_option maxHeartbeats 400000 in
theorem new_1 (w : World) : Calls Tryz.prog 17 #[.int .i64 1] w fun e w' => ∃ h, e = .returned (.iface 91 (.pointer (some ⟨h, 0, none⟩))) ∧ St1 w' h [] ∧ w.heap.size ≤ h ∧ h < w'.heap.size ∧ Below w.heap.size w w' := by
  go_enter Tryz.func17, Tryz.ntmps17
  go_wp2
  go_ret
  exact ⟨w.heap.size, rfl, heap_alloc_new w _, Nat.le_refl _, by simp, (Below.refl _ _).alloc (Nat.le_refl _) _⟩

set_option maxHeartbeats 1000000 in
theorem write_1 (h : Nat) (A : Option Addr) (n c B : Nat) (bs p : List UInt8) (w : World) (hst : St1 w h bs) (hn : n = p.length) (hr : Rd w B A p) (hnc : n ≤ c) (hc : c ≤ 9223372036854775807) :
    Calls Tryz.prog 113 #[.pointer (some ⟨h, 0, none⟩), .slice A n c] w fun e w' => e = .returned (.tuple #[.int .i64 (n : Int), .nilIface]) ∧ St1 w' h (bs ++ p) ∧ w.grownBy w' (some h) := by
  have hlt : Fnv.sum 1 bs < 4294967296 := by have := Fnv.sum_lt 1 bs (by omega); rwa [Fnv.md1] at this
  have hcell : w.cell? ⟨h, 0, none⟩ = some (.int .u32 (Fnv.sum 1 bs : Int)) := by rw [cell_of_row w h 0 _ _ _ hst]; rfl
  have hfz : w.frozen? ⟨h, 0, none⟩ = false := frozen_of_row w h 0 _ _ hst
  have hfin : Fnv.sum 1 (bs ++ p) = Fnv.run 1 (Fnv.sum 1 bs) p := Fnv.sum_append _ _ _
  have HST := Lib.hid hst
  have HN := Lib.hid hn
  have HF := Lib.hid hfin
  clear hst hn hfin
  obtain ⟨h0, e0⟩ : ∃ h0, Fnv.sum 1 bs = h0 := ⟨_, rfl⟩
  rw [e0] at hlt hcell HF
  clear e0
  obtain ⟨hb, rfl⟩ : ∃ hb : Nat, hb = h := ⟨_, rfl⟩
  go_enter Tryz.func113, Tryz.ntmps113
  go_wp2
  go_loopg [6, 14] n (fun gk v ix wr => ∃ (i h : Nat), i + gk = n ∧ ix = .int .i64 (i : Int) ∧ v = .int .u32 (h : Int) ∧ h < 4294967296 ∧ Hid (Fnv.run 1 h (p.drop i) = Fnv.run 1 h0 p) ∧ wr = w)
  case atStart => exact ⟨0, h0, by omega, rfl, rfl, hlt, rfl, rfl⟩
  case round =>
    obtain ⟨i, h, hi, rfl, rfl, hh, hrun, rfl⟩ := hrel
    have HI := Lib.hid hi
    have hin : i ≤ n := by omega
    clear hi
    by_cases hlti : i < n
    · obtain ⟨b, off, x, rfl, _, hx, hcx⟩ := hr.at (k := i) (by have := HN.out; omega)
      have hxb := x.toNat_lt
      have hdrop : p.drop i = x :: p.drop (i + 1) := by
        obtain ⟨hl, he⟩ := List.getElem?_eq_some_iff.1 hx
        rw [List.drop_eq_getElem_cons hl, he]
      have hr2 := hrun.out
      rw [hdrop, Fnv.run] at hr2
      have o1 : bits .xor .u32 (h : Int) (x.toNat : Int) = ((h ^^^ x.toNat : Nat) : Int) := u32_xor_nat _ _ hh (by omega)
      obtain ⟨y, hy⟩ : ∃ y, h ^^^ x.toNat = y := ⟨_, rfl⟩
      rw [hy] at o1
      have hyb : y < 4294967296 := by rw [← hy]; exact Nat.xor_lt_two_pow (n := 32) hh (by omega)
      have o2 : IntKind.u32.wrap ((y : Int) * 16777619) = ((y * 16777619 % 4294967296 : Nat) : Int) := by rw [IntKind.wrap_u32]; omega
      have hst : Fnv.step 1 h x = y * 16777619 % 4294967296 := by rw [← hy, Fnv.step1]
      have hsb := Fnv.step_lt 1 h x
      rw [hst] at hr2 hsb
      rw [Fnv.md1] at hsb
      have HR2 := Lib.hid hr2
      have hsb' : y * 16777619 % 4294967296 < 4294967296 := hsb
      have HSB := Lib.hid hsb'
      clear hst hr2 hdrop hx hy hsb hsb' hrun
      go_wp2
      go_roundg (gk - 1)
      case measure => have := HI.out; omega
      case rel => exact ⟨i + 1, y * 16777619 % 4294967296, by have := HI.out; omega, by go_num, rfl, HSB.out, HR2.out, rfl⟩
    · have hd : Fnv.run 1 h0 p = h := by
        have := hrun.out
        rw [List.drop_eq_nil_of_le (by have := HN.out; omega), Fnv.run] at this
        exact this.symm
      have HD := Lib.hid hd
      clear hd
      go_wp2
      go_ret2
      refine ⟨rfl, ?_, ⟨rfl, rfl, rfl, by simp [World.setCell], fun j _ hj => heap_setCell_other _ _ _ _ (fun e => hj (by rw [e]))⟩⟩
      show (World.setCell _ _ _).heap[hb]? = _
      rw [heap_setCell_same _ hb 0 _ _ _ HST.out, HF.out, HD.out]
      rfl

set_option maxHeartbeats 400000 in
theorem sum_1 (h : Nat) (bs : List UInt8) (w : World) (hst : St1 w h bs) :
    Calls Tryz.prog 111 #[.pointer (some ⟨h, 0, none⟩), .slice none 0 0] w fun e w' => ∃ g c, e = .returned (.slice (some ⟨g, 0, none⟩) (sum1 bs).length c) ∧ Own w' w.heap.size g c (sum1 bs) ∧ Below w.heap.size w w' := by
  have hlt : Fnv.sum 1 bs < 4294967296 := by have := Fnv.sum_lt 1 bs (by omega); rwa [Fnv.md1] at this
  have hcell : w.cell? ⟨h, 0, none⟩ = some (.int .u32 (Fnv.sum 1 bs : Int)) := by rw [cell_of_row w h 0 _ _ _ hst]; rfl
  have HST := Lib.hid hst
  clear hst
  unfold sum1
  generalize Fnv.sum 1 bs = D at *
  go_enter Tryz.func111, Tryz.ntmps111
  go_wp2_with fail
  refine (beAppend32_nil D _ hlt).mono ?_
  rintro e w1 ⟨g, c, rfl, h1, h2⟩
  go_wp2_with fail
  go_ret
  exact ⟨g, c, rfl, h1, h2⟩

end Go.Proofs.YtemojkjcnkbpoaaGreatDoor

/-
  hash/fnv's hash of the kind 2: New, Write, Sum. No condition but that the block is such a hash.
-/
namespace Go.Proofs.YtemojkjcnkbpoaaGreatDoor
open Go.RowKit

def St2 (w : World) (h : Nat) (bs : List UInt8) : Prop := w.heap[h]? = some (.cells #[.int .u64 (Fnv.sum 2 bs : Int)] 93 (0, 0))
def sum2 (bs : List UInt8) : List UInt8 := be64 (Fnv.sum 2 bs)
theorem St2.keep {w w' : World} {h : Nat} {bs : List UInt8} (hs : St2 w h bs) (e : w'.heap[h]? = w.heap[h]?) : St2 w' h bs := e.trans hs

set_option maxHeartbeats 400000 in
theorem new_2 (w : World) : Calls Tryz.prog 17 #[.int .i64 2] w fun e w' => ∃ h, e = .returned (.iface 94 (.pointer (some ⟨h, 0, none⟩))) ∧ St2 w' h [] ∧ w.heap.size ≤ h ∧ h < w'.heap.size ∧ Below w.heap.size w w' := by
  go_enter Tryz.func17, Tryz.ntmps17
  go_wp2
  go_ret
  exact ⟨w.heap.size, rfl, heap_alloc_new w _, Nat.le_refl _, by simp, (Below.refl _ _).alloc (Nat.le_refl _) _⟩

set_option maxHeartbeats 1000000 in
theorem write_2 (h : Nat) (A : Option Addr) (n c B : Nat) (bs p : List UInt8) (w : World) (hst : St2 w h bs) (hn : n = p.length) (hr : Rd w B A p) (hnc : n ≤ c) (hc : c ≤ 9223372036854775807) :
    Calls Tryz.prog 119 #[.pointer (some ⟨h, 0, none⟩), .slice A n c] w fun e w' => e = .returned (.tuple #[.int .i64 (n : Int), .nilIface]) ∧ St2 w' h (bs ++ p) ∧ w.grownBy w' (some h) := by
  have hlt : Fnv.sum 2 bs < 18446744073709551616 := by have := Fnv.sum_lt 2 bs (by omega); rwa [Fnv.md2] at this
  have hcell : w.cell? ⟨h, 0, none⟩ = some (.int .u64 (Fnv.sum 2 bs : Int)) := by rw [cell_of_row w h 0 _ _ _ hst]; rfl
  have hfz : w.frozen? ⟨h, 0, none⟩ = false := frozen_of_row w h 0 _ _ hst
  have hfin : Fnv.sum 2 (bs ++ p) = Fnv.run 2 (Fnv.sum 2 bs) p := Fnv.sum_append _ _ _
  have HST := Lib.hid hst
  have HN := Lib.hid hn
  have HF := Lib.hid hfin
  clear hst hn hfin
  obtain ⟨h0, e0⟩ : ∃ h0, Fnv.sum 2 bs = h0 := ⟨_, rfl⟩
  rw [e0] at hlt hcell HF
  clear e0
  obtain ⟨hb, rfl⟩ : ∃ hb : Nat, hb = h := ⟨_, rfl⟩
  go_enter Tryz.func119, Tryz.ntmps119
  go_wp2
  go_loopg [6, 14] n (fun gk v ix wr => ∃ (i h : Nat), i + gk = n ∧ ix = .int .i64 (i : Int) ∧ v = .int .u64 (h : Int) ∧ h < 18446744073709551616 ∧ Hid (Fnv.run 2 h (p.drop i) = Fnv.run 2 h0 p) ∧ wr = w)
  case atStart => exact ⟨0, h0, by omega, rfl, rfl, hlt, rfl, rfl⟩
  case round =>
    obtain ⟨i, h, hi, rfl, rfl, hh, hrun, rfl⟩ := hrel
    have HI := Lib.hid hi
    have hin : i ≤ n := by omega
    clear hi
    by_cases hlti : i < n
    · obtain ⟨b, off, x, rfl, _, hx, hcx⟩ := hr.at (k := i) (by have := HN.out; omega)
      have hxb := x.toNat_lt
      have hdrop : p.drop i = x :: p.drop (i + 1) := by
        obtain ⟨hl, he⟩ := List.getElem?_eq_some_iff.1 hx
        rw [List.drop_eq_getElem_cons hl, he]
      have hr2 := hrun.out
      rw [hdrop, Fnv.run] at hr2
      have o1 : IntKind.u64.wrap ((h : Int) * 1099511628211) = ((h * 1099511628211 % 18446744073709551616 : Nat) : Int) := by rw [IntKind.wrap_u64]; omega
      obtain ⟨y, hy⟩ : ∃ y, h * 1099511628211 % 18446744073709551616 = y := ⟨_, rfl⟩
      rw [hy] at o1
      have hyb : y < 18446744073709551616 := by rw [← hy]; exact Nat.mod_lt _ (by omega)
      have o2 : bits .xor .u64 (y : Int) (x.toNat : Int) = ((y ^^^ x.toNat : Nat) : Int) := bits_xor_u64_nat _ _ hyb (by omega)
      have hst : Fnv.step 2 h x = y ^^^ x.toNat := by rw [← hy, Fnv.step2]
      have hsb := Fnv.step_lt 2 h x
      rw [hst] at hr2 hsb
      rw [Fnv.md2] at hsb
      have HR2 := Lib.hid hr2
      have hsb' : y ^^^ x.toNat < 18446744073709551616 := hsb
      have HSB := Lib.hid hsb'
      clear hst hr2 hdrop hx hy hsb hsb' hrun
      go_wp2
      go_roundg (gk - 1)
      case measure => have := HI.out; omega
      case rel => exact ⟨i + 1, y ^^^ x.toNat, by have := HI.out; omega, by go_num, rfl, HSB.out, HR2.out, rfl⟩
    · have hd : Fnv.run 2 h0 p = h := by
        have := hrun.out
        rw [List.drop_eq_nil_of_le (by have := HN.out; omega), Fnv.run] at this
        exact this.symm
      have HD := Lib.hid hd
      clear hd
      go_wp2
      go_ret2
      refine ⟨rfl, ?_, ⟨rfl, rfl, rfl, by simp [World.setCell], fun j _ hj => heap_setCell_other _ _ _ _ (fun e => hj (by rw [e]))⟩⟩
      show (World.setCell _ _ _).heap[hb]? = _
      rw [heap_setCell_same _ hb 0 _ _ _ HST.out, HF.out, HD.out]
      rfl

set_option maxHeartbeats 400000 in
theorem sum_2 (h : Nat) (bs : List UInt8) (w : World) (hst : St2 w h bs) :
    Calls Tryz.prog 117 #[.pointer (some ⟨h, 0, none⟩), .slice none 0 0] w fun e w' => ∃ g c, e = .returned (.slice (some ⟨g, 0, none⟩) (sum2 bs).length c) ∧ Own w' w.heap.size g c (sum2 bs) ∧ Below w.heap.size w w' := by
  have hlt : Fnv.sum 2 bs < 18446744073709551616 := by have := Fnv.sum_lt 2 bs (by omega); rwa [Fnv.md2] at this
  have hcell : w.cell? ⟨h, 0, none⟩ = some (.int .u64 (Fnv.sum 2 bs : Int)) := by rw [cell_of_row w h 0 _ _ _ hst]; rfl
  have HST := Lib.hid hst
  clear hst
  unfold sum2
  generalize Fnv.sum 2 bs = D at *
  go_enter Tryz.func117, Tryz.ntmps117
  go_wp2_with fail
  refine (beAppend64_nil D _ hlt).mono ?_
  rintro e w1 ⟨g, c, rfl, h1, h2⟩
  go_wp2_with fail
  go_ret
  exact ⟨g, c, rfl, h1, h2⟩

end Go.Proofs.YtemojkjcnkbpoaaGreatDoor

/-
  hash/fnv's hash of the kind 3: New, Write, Sum. No condition but that the block is such a hash.
-/
namespace Go.Proofs.YtemojkjcnkbpoaaGreatDoor
open Go.RowKit

def St3 (w : World) (h : Nat) (bs : List UInt8) : Prop := w.heap[h]? = some (.cells #[.int .u64 (Fnv.sum 3 bs : Int)] 95 (0, 0))
def sum3 (bs : List UInt8) : List UInt8 := be64 (Fnv.sum 3 bs)
theorem St3.keep {w w' : World} {h : Nat} {bs : List UInt8} (hs : St3 w h bs) (e : w'.heap[h]? = w.heap[h]?) : St3 w' h bs := e.trans hs

set_option maxHeartbeats 400000 in
theorem new_3 (w : World) : Calls Tryz.prog 17 #[.int .i64 3] w fun e w' => ∃ h, e = .returned (.iface 96 (.pointer (some ⟨h, 0, none⟩))) ∧ St3 w' h [] ∧ w.heap.size ≤ h ∧ h < w'.heap.size ∧ Below w.heap.size w w' := by
  go_enter Tryz.func17, Tryz.ntmps17
  go_wp2
  go_ret
  exact ⟨w.heap.size, rfl, heap_alloc_new w _, Nat.le_refl _, by simp, (Below.refl _ _).alloc (Nat.le_refl _) _⟩

set_option maxHeartbeats 1000000 in
theorem write_3 (h : Nat) (A : Option Addr) (n c B : Nat) (bs p : List UInt8) (w : World) (hst : St3 w h bs) (hn : n = p.length) (hr : Rd w B A p) (hnc : n ≤ c) (hc : c ≤ 9223372036854775807) :
    Calls Tryz.prog 126 #[.pointer (some ⟨h, 0, none⟩), .slice A n c] w fun e w' => e = .returned (.tuple #[.int .i64 (n : Int), .nilIface]) ∧ St3 w' h (bs ++ p) ∧ w.grownBy w' (some h) := by
  have hlt : Fnv.sum 3 bs < 18446744073709551616 := by have := Fnv.sum_lt 3 bs (by omega); rwa [Fnv.md3] at this
  have hcell : w.cell? ⟨h, 0, none⟩ = some (.int .u64 (Fnv.sum 3 bs : Int)) := by rw [cell_of_row w h 0 _ _ _ hst]; rfl
  have hfz : w.frozen? ⟨h, 0, none⟩ = false := frozen_of_row w h 0 _ _ hst
  have hfin : Fnv.sum 3 (bs ++ p) = Fnv.run 3 (Fnv.sum 3 bs) p := Fnv.sum_append _ _ _
  have HST := Lib.hid hst
  have HN := Lib.hid hn
  have HF := Lib.hid hfin
  clear hst hn hfin
  obtain ⟨h0, e0⟩ : ∃ h0, Fnv.sum 3 bs = h0 := ⟨_, rfl⟩
  rw [e0] at hlt hcell HF
  clear e0
  obtain ⟨hb, rfl⟩ : ∃ hb : Nat, hb = h := ⟨_, rfl⟩
  go_enter Tryz.func126, Tryz.ntmps126
  go_wp2
  go_loopg [6, 14] n (fun gk v ix wr => ∃ (i h : Nat), i + gk = n ∧ ix = .int .i64 (i : Int) ∧ v = .int .u64 (h : Int) ∧ h < 18446744073709551616 ∧ Hid (Fnv.run 3 h (p.drop i) = Fnv.run 3 h0 p) ∧ wr = w)
  case atStart => exact ⟨0, h0, by omega, rfl, rfl, hlt, rfl, rfl⟩
  case round =>
    obtain ⟨i, h, hi, rfl, rfl, hh, hrun, rfl⟩ := hrel
    have HI := Lib.hid hi
    have hin : i ≤ n := by omega
    clear hi
    by_cases hlti : i < n
    · obtain ⟨b, off, x, rfl, _, hx, hcx⟩ := hr.at (k := i) (by have := HN.out; omega)
      have hxb := x.toNat_lt
      have hdrop : p.drop i = x :: p.drop (i + 1) := by
        obtain ⟨hl, he⟩ := List.getElem?_eq_some_iff.1 hx
        rw [List.drop_eq_getElem_cons hl, he]
      have hr2 := hrun.out
      rw [hdrop, Fnv.run] at hr2
      have o1 : bits .xor .u64 (h : Int) (x.toNat : Int) = ((h ^^^ x.toNat : Nat) : Int) := bits_xor_u64_nat _ _ hh (by omega)
      obtain ⟨y, hy⟩ : ∃ y, h ^^^ x.toNat = y := ⟨_, rfl⟩
      rw [hy] at o1
      have hyb : y < 18446744073709551616 := by rw [← hy]; exact Nat.xor_lt_two_pow (n := 64) hh (by omega)
      have o2 : IntKind.u64.wrap ((y : Int) * 1099511628211) = ((y * 1099511628211 % 18446744073709551616 : Nat) : Int) := by rw [IntKind.wrap_u64]; omega
      have hst : Fnv.step 3 h x = y * 1099511628211 % 18446744073709551616 := by rw [← hy, Fnv.step3]
      have hsb := Fnv.step_lt 3 h x
      rw [hst] at hr2 hsb
      rw [Fnv.md3] at hsb
      have HR2 := Lib.hid hr2
      have hsb' : y * 1099511628211 % 18446744073709551616 < 18446744073709551616 := hsb
      have HSB := Lib.hid hsb'
      clear hst hr2 hdrop hx hy hsb hsb' hrun
      go_wp2
      go_roundg (gk - 1)
      case measure => have := HI.out; omega
      case rel => exact ⟨i + 1, y * 1099511628211 % 18446744073709551616, by have := HI.out; omega, by go_num, rfl, HSB.out, HR2.out, rfl⟩
    · have hd : Fnv.run 3 h0 p = h := by
        have := hrun.out
        rw [List.drop_eq_nil_of_le (by have := HN.out; omega), Fnv.run] at this
        exact this.symm
      have HD := Lib.hid hd
      clear hd
      go_wp2
      go_ret2
      refine ⟨rfl, ?_, ⟨rfl, rfl, rfl, by simp [World.setCell], fun j _ hj => heap_setCell_other _ _ _ _ (fun e => hj (by rw [e]))⟩⟩
      show (World.setCell _ _ _).heap[hb]? = _
      rw [heap_setCell_same _ hb 0 _ _ _ HST.out, HF.out, HD.out]
      rfl

set_option maxHeartbeats 400000 in
theorem sum_3 (h : Nat) (bs : List UInt8) (w : World) (hst : St3 w h bs) :
    Calls Tryz.prog 124 #[.pointer (some ⟨h, 0, none⟩), .slice none 0 0] w fun e w' => ∃ g c, e = .returned (.slice (some ⟨g, 0, none⟩) (sum3 bs).length c) ∧ Own w' w.heap.size g c (sum3 bs) ∧ Below w.heap.size w w' := by
  have hlt : Fnv.sum 3 bs < 18446744073709551616 := by have := Fnv.sum_lt 3 bs (by omega); rwa [Fnv.md3] at this
  have hcell : w.cell? ⟨h, 0, none⟩ = some (.int .u64 (Fnv.sum 3 bs : Int)) := by rw [cell_of_row w h 0 _ _ _ hst]; rfl
  have HST := Lib.hid hst
  clear hst
  unfold sum3
  generalize Fnv.sum 3 bs = D at *
  go_enter Tryz.func124, Tryz.ntmps124
  go_wp2_with fail
  refine (beAppend64_nil D _ hlt).mono ?_
  rintro e w1 ⟨g, c, rfl, h1, h2⟩
  go_wp2_with fail
  go_ret
  exact ⟨g, c, rfl, h1, h2⟩

end Go.Proofs.YtemojkjcnkbpoaaGreatDoor

/-
  hash/fnv's hash of the kind 4 (128 bits): New, Write, Sum. No condition but that the block is such a hash.
-/
namespace Go.Proofs.YtemojkjcnkbpoaaGreatDoor
open Go.RowKit

theorem gset4 {w wr : World} {h : Nat} (i : Nat) (hg : w.grownBy wr (some h)) (v : Value) : w.grownBy (wr.setCell ⟨h, i, none⟩ v) (some h) :=
  ⟨hg.os, hg.tape, hg.output, by simpa [World.setCell] using hg.size, fun k h1 h2 => (heap_setCell_other _ _ _ _ (fun e => h2 (by rw [e]))).trans (hg.block k h1 h2)⟩

theorem gdrew4 {w wr : World} {r : Option Nat} (hg : w.grownBy wr r) : w.grownBy wr.drew r := ⟨hg.os, hg.tape, hg.output, hg.size, hg.block⟩
theorem gdrewN4 {w wr : World} {r : Option Nat} (n : Nat) (hg : w.grownBy wr r) : w.grownBy (wr.drewN n) r := ⟨hg.os, hg.tape, hg.output, hg.size, hg.block⟩

/-- the hash at block h has been written bs: its two words -/
def St4 (w : World) (h : Nat) (bs : List UInt8) : Prop := ∃ hi lo : Nat, hi < 18446744073709551616 ∧ lo < 18446744073709551616 ∧ Fnv.wide hi lo = Fnv.sum 4 bs ∧ w.heap[h]? = some (.cells #[.int .u64 (hi : Int), .int .u64 (lo : Int)] 98 (0, 0))
def sum4 (bs : List UInt8) : List UInt8 := be64 (Fnv.sum 4 bs / 18446744073709551616) ++ be64 (Fnv.sum 4 bs % 18446744073709551616)
theorem St4.keep {w w' : World} {h : Nat} {bs : List UInt8} (hs : St4 w h bs) (e : w'.heap[h]? = w.heap[h]?) : St4 w' h bs := by
  obtain ⟨hi, lo, h1, h2, h3, h4⟩ := hs
  exact ⟨hi, lo, h1, h2, h3, e.trans h4⟩

set_option maxHeartbeats 400000 in
theorem new_4 (w : World) : Calls Tryz.prog 17 #[.int .i64 4] w fun e w' => ∃ h, e = .returned (.iface 99 (.pointer (some ⟨h, 0, none⟩))) ∧ St4 w' h [] ∧ w.heap.size ≤ h ∧ h < w'.heap.size ∧ Below w.heap.size w w' := by
  go_enter Tryz.func17, Tryz.ntmps17
  go_wp2
  go_ret
  refine ⟨w.heap.size, rfl, ⟨7809847782465536322, 7113472399480571277, by omega, by omega, ?_, heap_alloc_new w _⟩, Nat.le_refl _, by simp, (Below.refl _ _).alloc (Nat.le_refl _) _⟩
  simp [Fnv.sum, Fnv.run, Fnv.offset, Fnv.wide]

set_option maxRecDepth 100000 in
set_option maxHeartbeats 2000000 in
theorem write_4 (h : Nat) (A : Option Addr) (n c B : Nat) (bs p : List UInt8) (w : World) (hst : St4 w h bs) (hn : n = p.length) (hr : Rd w B A p) (hnc : n ≤ c) (hc : c ≤ 9223372036854775807) :
    Calls Tryz.prog 131 #[.pointer (some ⟨h, 0, none⟩), .slice A n c] w fun e w' => e = .returned (.tuple #[.int .i64 (n : Int), .nilIface]) ∧ St4 w' h (bs ++ p) ∧ w.grownBy w' (some h) := by
  obtain ⟨hi0, lo0, hhi0, hlo0, hw0, hblk⟩ := hst
  have hfin : Fnv.sum 4 (bs ++ p) = Fnv.run 4 (Fnv.wide hi0 lo0) p := by rw [hw0]; exact Fnv.sum_append _ _ _
  have HN := Lib.hid hn
  have HF := Lib.hid hfin
  have HBLK := Lib.hid hblk
  clear hn hfin hw0 hblk
  obtain ⟨hb, rfl⟩ : ∃ hb : Nat, hb = h := ⟨_, rfl⟩
  go_enter Tryz.func131, Tryz.ntmps131
  go_wp2
  go_loopg [12] n (fun gk ix wr => ∃ (i hi lo : Nat), i + gk = n ∧ ix = .int .i64 (i : Int) ∧ hi < 18446744073709551616 ∧ lo < 18446744073709551616 ∧ Hid (Fnv.run 4 (Fnv.wide hi lo) (p.drop i) = Fnv.run 4 (Fnv.wide hi0 lo0) p) ∧ Hid (wr.heap[hb]? = some (.cells #[.int .u64 (hi : Int), .int .u64 (lo : Int)] 98 (0, 0))) ∧ Hid (w.grownBy wr (some hb)))
  case atStart => exact ⟨0, hi0, lo0, by omega, rfl, hhi0, hlo0, rfl, HBLK, World.grownBy.refl _ _⟩
  case round =>
    obtain ⟨i, hi, lo, hin, rfl, hhi, hlo, hrun, HBK, hgr⟩ := hrel
    have HI := Lib.hid hin
    have hinn : i ≤ n := by omega
    clear hin
    by_cases hlti : i < n
    · obtain ⟨b, off, x, rfl, _, hx, hcx0⟩ := hr.at (k := i) (by have := HN.out; omega)
      have hbne : b ≠ hb := by
        rintro rfl
        rw [cell_of_row w b (off + i) _ _ _ HBLK.out] at hcx0
        have : off + i < 2 := by
          rcases Nat.lt_or_ge (off + i) 2 with h | h
          · exact h
          · rw [Array.getElem?_eq_none (by simpa using h)] at hcx0; cases hcx0
        have h01 : off + i = 0 ∨ off + i = 1 := by omega
        rcases h01 with e | e <;> rw [e] at hcx0 <;> simp at hcx0
      have hcx : wr.cell? ⟨b, off + i, none⟩ = some (.int .u8 (x.toNat : Int)) := hgr.out.cell hcx0 (by simpa using hbne)
      have cell0 : wr.cell? ⟨hb, 0, none⟩ = some (.int .u64 (hi : Int)) := by rw [cell_of_row wr hb 0 _ _ _ HBK.out]; rfl
      have cell1 : wr.cell? ⟨hb, 1, none⟩ = some (.int .u64 (lo : Int)) := by rw [cell_of_row wr hb 1 _ _ _ HBK.out]; rfl
      have hfz : ∀ j, wr.frozen? ⟨hb, j, none⟩ = false := fun j => frozen_of_row wr hb j _ _ HBK.out
      have hxb := x.toNat_lt
      have hdrop : p.drop i = x :: p.drop (i + 1) := by
        obtain ⟨hl, he⟩ := List.getElem?_eq_some_iff.1 hx
        rw [List.drop_eq_getElem_cons hl, he]
      have hr2 := hrun.out
      rw [hdrop, Fnv.run] at hr2
      have o1 : IntKind.u64.wrap ((lo : Int) * 16777216) = ((lo * 16777216 % 18446744073709551616 : Nat) : Int) := by rw [IntKind.wrap_u64]; omega
      have o2 : IntKind.u64.wrap (315 * (hi : Int)) = ((315 * hi % 18446744073709551616 : Nat) : Int) := by rw [IntKind.wrap_u64]; omega
      obtain ⟨s1, e1⟩ : ∃ s1, s1 = lo * 16777216 % 18446744073709551616 := ⟨_, rfl⟩
      obtain ⟨s2, e2⟩ : ∃ s2, s2 = 315 * hi % 18446744073709551616 := ⟨_, rfl⟩
      obtain ⟨qh, eq⟩ : ∃ qh, qh = 315 * lo / 18446744073709551616 := ⟨_, rfl⟩
      obtain ⟨ql, el⟩ : ∃ ql, ql = 315 * lo % 18446744073709551616 := ⟨_, rfl⟩
      rw [← e1] at o1
      rw [← e2] at o2
      have o3 : IntKind.u64.wrap ((s1 : Int) + s2) = (((s1 + s2) % 18446744073709551616 : Nat) : Int) := by rw [IntKind.wrap_u64]; omega
      obtain ⟨s3, e3⟩ : ∃ s3, s3 = (s1 + s2) % 18446744073709551616 := ⟨_, rfl⟩
      rw [← e3] at o3
      have o4 : IntKind.u64.wrap ((qh : Int) + s3) = (((qh + s3) % 18446744073709551616 : Nat) : Int) := by rw [IntKind.wrap_u64]; omega
      obtain ⟨s4, e4⟩ : ∃ s4, s4 = (qh + s3) % 18446744073709551616 := ⟨_, rfl⟩
      rw [← e4] at o4
      have hs4 : s4 < 18446744073709551616 := by omega
      have hql : ql < 18446744073709551616 := by omega
      have hmul : Fnv.wide hi lo * 309485009821345068724781371 % 340282366920938463463374607431768211456 = Fnv.wide s4 ql := by
        rw [el]; exact Fnv.wide_mul hi lo s1 s2 s3 s4 e1 e2 e3 (by rw [← eq]; exact e4)
      have o5 : bits .xor .u64 (ql : Int) (x.toNat : Int) = ((ql ^^^ x.toNat : Nat) : Int) := bits_xor_u64_nat _ _ hql (by omega)
      obtain ⟨y, ey⟩ : ∃ y, y = ql ^^^ x.toNat := ⟨_, rfl⟩
      rw [← ey] at o5
      have hyb : y < 18446744073709551616 := by rw [ey]; exact Nat.xor_lt_two_pow (n := 64) hql (by omega)
      have hst : Fnv.step 4 (Fnv.wide hi lo) x = Fnv.wide s4 y := by rw [Fnv.step4, hmul, Fnv.wide_xor _ _ _ hql (by omega), ey]
      rw [hst] at hr2
      have HR2 := Lib.hid hr2
      have EQ := Lib.hid eq
      have EL := Lib.hid el
      clear hst hmul e1 e2 e3 e4 ey hr2 hrun hdrop hx eq el
      go_wp2_with fail
      refine (mul64_any 315 lo (by omega) hlo _).mono ?_
      rintro e w1 ⟨rfl, rfl⟩
      rw [← EQ.out, ← EL.out]
      go_wp2_with fail
      go_quiet (fail)
      go_wp2_with fail
      go_region
      all_goals (go_wp2)
      all_goals
        go_roundg (gk - 1)
        case measure => have := HI.out; omega
        case rel =>
          refine ⟨i + 1, s4, y, by have := HI.out; omega, by go_num, hs4, hyb, HR2.out, ?_, ?_⟩
          · show (World.setCell (World.setCell (World.setCell wr _ _) _ _) _ _).heap[hb]? = _
            rw [heap_setCell_same _ hb 1 _ _ _ (heap_setCell_same _ hb 0 _ _ _ (heap_setCell_same _ hb 1 _ _ _ HBK.out))]
            rfl
          · exact gdrew4 (gset4 1 (gset4 0 (gset4 1 (gdrewN4 nq hgr.out) _) _) _)
    · have hd : Fnv.run 4 (Fnv.wide hi0 lo0) p = Fnv.wide hi lo := by
        have := hrun.out
        rw [List.drop_eq_nil_of_le (by have := HN.out; omega), Fnv.run] at this
        exact this.symm
      have HD := Lib.hid hd
      clear hd
      go_wp2
      go_ret2
      exact ⟨rfl, ⟨hi, lo, hhi, hlo, by rw [HF.out, HD.out], HBK.out⟩, hgr.out⟩

set_option maxHeartbeats 400000 in
theorem sum_4 (h : Nat) (bs : List UInt8) (w : World) (hst : St4 w h bs) :
    Calls Tryz.prog 130 #[.pointer (some ⟨h, 0, none⟩), .slice none 0 0] w fun e w' => ∃ g c, e = .returned (.slice (some ⟨g, 0, none⟩) (sum4 bs).length c) ∧ Own w' w.heap.size g c (sum4 bs) ∧ Below w.heap.size w w' := by
  obtain ⟨hi, lo, hhi, hlo, hw, hblk⟩ := hst
  have hlt : h < w.heap.size := (Array.getElem?_eq_some_iff.1 hblk).1
  have e1 : Fnv.sum 4 bs / 18446744073709551616 = hi := by rw [← hw]; unfold Fnv.wide; omega
  have e2 : Fnv.sum 4 bs % 18446744073709551616 = lo := by rw [← hw]; unfold Fnv.wide; omega
  unfold sum4
  rw [e1, e2]
  have c0 : w.cell? ⟨h, 0, none⟩ = some (.int .u64 (hi : Int)) := by rw [cell_of_row w h 0 _ _ _ hblk]; rfl
  have c1 : w.cell? ⟨h, 1, none⟩ = some (.int .u64 (lo : Int)) := by rw [cell_of_row w h 1 _ _ _ hblk]; rfl
  clear e1 e2 hw hblk
  go_enter Tryz.func130, Tryz.ntmps130
  go_wp2_with fail
  refine (beAppend64_nil hi _ hhi).mono ?_
  rintro e w1 ⟨g1, c1', rfl, h1, h2⟩
  have d1 : w1.cell? ⟨h, 1, none⟩ = some (.int .u64 (lo : Int)) := (h2.cell (p := ⟨h, 1, none⟩) hlt).trans c1
  have z1 := h2.size
  clear c0 c1
  go_wp2_with fail
  refine (beAppend64_own w.heap.size g1 c1' (be64 hi) _ lo _ (by simp [be64]) h1 z1 (by simp [be64]) hlo).mono ?_
  rintro e w2 ⟨g2, c2, rfl, h3, h4⟩
  go_wp2_with fail
  go_ret
  exact ⟨g2, c2, rfl, h3, h2.trans h4⟩

end Go.Proofs.YtemojkjcnkbpoaaGreatDoor

/-
  hash/fnv's hash of the kind 5 (128 bits): New, Write, Sum. No condition but that the block is such a hash.
-/
namespace Go.Proofs.YtemojkjcnkbpoaaGreatDoor
open Go.RowKit

theorem gset5 {w wr : World} {h : Nat} (i : Nat) (hg : w.grownBy wr (some h)) (v : Value) : w.grownBy (wr.setCell ⟨h, i, none⟩ v) (some h) :=
  ⟨hg.os, hg.tape, hg.output, by simpa [World.setCell] using hg.size, fun k h1 h2 => (heap_setCell_other _ _ _ _ (fun e => h2 (by rw [e]))).trans (hg.block k h1 h2)⟩

theorem gdrew5 {w wr : World} {r : Option Nat} (hg : w.grownBy wr r) : w.grownBy wr.drew r := ⟨hg.os, hg.tape, hg.output, hg.size, hg.block⟩
theorem gdrewN5 {w wr : World} {r : Option Nat} (n : Nat) (hg : w.grownBy wr r) : w.grownBy (wr.drewN n) r := ⟨hg.os, hg.tape, hg.output, hg.size, hg.block⟩

/-- the hash at block h has been written bs: its two words -/
def St5 (w : World) (h : Nat) (bs : List UInt8) : Prop := ∃ hi lo : Nat, hi < 18446744073709551616 ∧ lo < 18446744073709551616 ∧ Fnv.wide hi lo = Fnv.sum 5 bs ∧ w.heap[h]? = some (.cells #[.int .u64 (hi : Int), .int .u64 (lo : Int)] 100 (0, 0))
def sum5 (bs : List UInt8) : List UInt8 := be64 (Fnv.sum 5 bs / 18446744073709551616) ++ be64 (Fnv.sum 5 bs % 18446744073709551616)
theorem St5.keep {w w' : World} {h : Nat} {bs : List UInt8} (hs : St5 w h bs) (e : w'.heap[h]? = w.heap[h]?) : St5 w' h bs := by
  obtain ⟨hi, lo, h1, h2, h3, h4⟩ := hs
  exact ⟨hi, lo, h1, h2, h3, e.trans h4⟩

set_option maxHeartbeats 400000 in
theorem new_5 (w : World) : Calls Tryz.prog 17 #[.int .i64 5] w fun e w' => ∃ h, e = .returned (.iface 101 (.pointer (some ⟨h, 0, none⟩))) ∧ St5 w' h [] ∧ w.heap.size ≤ h ∧ h < w'.heap.size ∧ Below w.heap.size w w' := by
  go_enter Tryz.func17, Tryz.ntmps17
  go_wp2
  go_ret
  refine ⟨w.heap.size, rfl, ⟨7809847782465536322, 7113472399480571277, by omega, by omega, ?_, heap_alloc_new w _⟩, Nat.le_refl _, by simp, (Below.refl _ _).alloc (Nat.le_refl _) _⟩
  simp [Fnv.sum, Fnv.run, Fnv.offset, Fnv.wide]

set_option maxRecDepth 100000 in
set_option maxHeartbeats 2000000 in
theorem write_5 (h : Nat) (A : Option Addr) (n c B : Nat) (bs p : List UInt8) (w : World) (hst : St5 w h bs) (hn : n = p.length) (hr : Rd w B A p) (hnc : n ≤ c) (hc : c ≤ 9223372036854775807) :
    Calls Tryz.prog 137 #[.pointer (some ⟨h, 0, none⟩), .slice A n c] w fun e w' => e = .returned (.tuple #[.int .i64 (n : Int), .nilIface]) ∧ St5 w' h (bs ++ p) ∧ w.grownBy w' (some h) := by
  obtain ⟨hi0, lo0, hhi0, hlo0, hw0, hblk⟩ := hst
  have hfin : Fnv.sum 5 (bs ++ p) = Fnv.run 5 (Fnv.wide hi0 lo0) p := by rw [hw0]; exact Fnv.sum_append _ _ _
  have HN := Lib.hid hn
  have HF := Lib.hid hfin
  have HBLK := Lib.hid hblk
  clear hn hfin hw0 hblk
  obtain ⟨hb, rfl⟩ : ∃ hb : Nat, hb = h := ⟨_, rfl⟩
  go_enter Tryz.func137, Tryz.ntmps137
  go_wp2
  go_loopg [12] n (fun gk ix wr => ∃ (i hi lo : Nat), i + gk = n ∧ ix = .int .i64 (i : Int) ∧ hi < 18446744073709551616 ∧ lo < 18446744073709551616 ∧ Hid (Fnv.run 5 (Fnv.wide hi lo) (p.drop i) = Fnv.run 5 (Fnv.wide hi0 lo0) p) ∧ Hid (wr.heap[hb]? = some (.cells #[.int .u64 (hi : Int), .int .u64 (lo : Int)] 100 (0, 0))) ∧ Hid (w.grownBy wr (some hb)))
  case atStart => exact ⟨0, hi0, lo0, by omega, rfl, hhi0, hlo0, rfl, HBLK, World.grownBy.refl _ _⟩
  case round =>
    obtain ⟨i, hi, lo, hin, rfl, hhi, hlo, hrun, HBK, hgr⟩ := hrel
    have HI := Lib.hid hin
    have hinn : i ≤ n := by omega
    clear hin
    by_cases hlti : i < n
    · obtain ⟨b, off, x, rfl, _, hx, hcx0⟩ := hr.at (k := i) (by have := HN.out; omega)
      have hbne : b ≠ hb := by
        rintro rfl
        rw [cell_of_row w b (off + i) _ _ _ HBLK.out] at hcx0
        have : off + i < 2 := by
          rcases Nat.lt_or_ge (off + i) 2 with h | h
          · exact h
          · rw [Array.getElem?_eq_none (by simpa using h)] at hcx0; cases hcx0
        have h01 : off + i = 0 ∨ off + i = 1 := by omega
        rcases h01 with e | e <;> rw [e] at hcx0 <;> simp at hcx0
      have hcx : wr.cell? ⟨b, off + i, none⟩ = some (.int .u8 (x.toNat : Int)) := hgr.out.cell hcx0 (by simpa using hbne)
      have cell0 : wr.cell? ⟨hb, 0, none⟩ = some (.int .u64 (hi : Int)) := by rw [cell_of_row wr hb 0 _ _ _ HBK.out]; rfl
      have cell1 : wr.cell? ⟨hb, 1, none⟩ = some (.int .u64 (lo : Int)) := by rw [cell_of_row wr hb 1 _ _ _ HBK.out]; rfl
      have hfz : ∀ j, wr.frozen? ⟨hb, j, none⟩ = false := fun j => frozen_of_row wr hb j _ _ HBK.out
      have hxb := x.toNat_lt
      have hdrop : p.drop i = x :: p.drop (i + 1) := by
        obtain ⟨hl, he⟩ := List.getElem?_eq_some_iff.1 hx
        rw [List.drop_eq_getElem_cons hl, he]
      have hr2 := hrun.out
      rw [hdrop, Fnv.run] at hr2
      have o5 : bits .xor .u64 (lo : Int) (x.toNat : Int) = ((lo ^^^ x.toNat : Nat) : Int) := bits_xor_u64_nat _ _ hlo (by omega)
      obtain ⟨y, ey⟩ : ∃ y, y = lo ^^^ x.toNat := ⟨_, rfl⟩
      rw [← ey] at o5
      have hyb : y < 18446744073709551616 := by rw [ey]; exact Nat.xor_lt_two_pow (n := 64) hlo (by omega)
      have o1 : IntKind.u64.wrap ((y : Int) * 16777216) = ((y * 16777216 % 18446744073709551616 : Nat) : Int) := by rw [IntKind.wrap_u64]; omega
      have o2 : IntKind.u64.wrap (315 * (hi : Int)) = ((315 * hi % 18446744073709551616 : Nat) : Int) := by rw [IntKind.wrap_u64]; omega
      obtain ⟨s1, e1⟩ : ∃ s1, s1 = y * 16777216 % 18446744073709551616 := ⟨_, rfl⟩
      obtain ⟨s2, e2⟩ : ∃ s2, s2 = 315 * hi % 18446744073709551616 := ⟨_, rfl⟩
      obtain ⟨qh, eq⟩ : ∃ qh, qh = 315 * y / 18446744073709551616 := ⟨_, rfl⟩
      obtain ⟨ql, el⟩ : ∃ ql, ql = 315 * y % 18446744073709551616 := ⟨_, rfl⟩
      rw [← e1] at o1
      rw [← e2] at o2
      have o3 : IntKind.u64.wrap ((s1 : Int) + s2) = (((s1 + s2) % 18446744073709551616 : Nat) : Int) := by rw [IntKind.wrap_u64]; omega
      obtain ⟨s3, e3⟩ : ∃ s3, s3 = (s1 + s2) % 18446744073709551616 := ⟨_, rfl⟩
      rw [← e3] at o3
      have o4 : IntKind.u64.wrap ((qh : Int) + s3) = (((qh + s3) % 18446744073709551616 : Nat) : Int) := by rw [IntKind.wrap_u64]; omega
      obtain ⟨s4, e4⟩ : ∃ s4, s4 = (qh + s3) % 18446744073709551616 := ⟨_, rfl⟩
      rw [← e4] at o4
      have hs4 : s4 < 18446744073709551616 := by omega
      have hql : ql < 18446744073709551616 := by omega
      have hmul : Fnv.wide hi y * 309485009821345068724781371 % 340282366920938463463374607431768211456 = Fnv.wide s4 ql := by
        rw [el]; exact Fnv.wide_mul hi y s1 s2 s3 s4 e1 e2 e3 (by rw [← eq]; exact e4)
      have hst : Fnv.step 5 (Fnv.wide hi lo) x = Fnv.wide s4 ql := by rw [Fnv.step5, Fnv.wide_xor _ _ _ hlo (by omega), ← ey, hmul]
      rw [hst] at hr2
      have HR2 := Lib.hid hr2
      have EQ := Lib.hid eq
      have EL := Lib.hid el
      clear hst hmul e1 e2 e3 e4 ey hr2 hrun hdrop hx eq el
      go_upto_region 4 with (fail)
      go_cut [] (fun wc => Hid (wc.heap[hb]? = some (.cells #[.int .u64 (hi : Int), .int .u64 (y : Int)] 100 (0, 0)) ∧ w.grownBy wc (some hb)))
      case first =>
        go_region
        all_goals (go_wp2_with fail; go_meet)
        all_goals
          refine ⟨?_, gdrew5 (gset5 1 hgr.out _)⟩
          show (World.setCell wr _ _).heap[hb]? = _
          rw [heap_setCell_same _ hb 1 _ _ _ HBK.out]
          rfl
      case rest =>
        obtain ⟨hbk2, hgr2⟩ := hcut.out
        have c0 : wc.cell? ⟨hb, 0, none⟩ = some (.int .u64 (hi : Int)) := by rw [cell_of_row wc hb 0 _ _ _ hbk2]; rfl
        have c1 : wc.cell? ⟨hb, 1, none⟩ = some (.int .u64 (y : Int)) := by rw [cell_of_row wc hb 1 _ _ _ hbk2]; rfl
        have hfz2 : ∀ j, wc.frozen? ⟨hb, j, none⟩ = false := fun j => frozen_of_row wc hb j _ _ hbk2
        have HBK2 := Lib.hid hbk2
        have HGR2 := Lib.hid hgr2
        clear hbk2 hgr2 hcut cell0 cell1 hfz
        go_wp2_with fail
        refine (mul64_any 315 y (by omega) hyb _).mono ?_
        rintro e w1 ⟨rfl, rfl⟩
        rw [← EQ.out, ← EL.out]
        go_wp2_with fail
        go_quiet (fail)
        go_wp2
        go_roundg (gk - 1)
        case measure => have := HI.out; omega
        case rel =>
          refine ⟨i + 1, s4, ql, by have := HI.out; omega, by go_num, hs4, hql, HR2.out, ?_, ?_⟩
          · show (World.setCell (World.setCell wc _ _) _ _).heap[hb]? = _
            rw [heap_setCell_same _ hb 0 _ _ _ (heap_setCell_same _ hb 1 _ _ _ HBK2.out)]
            rfl
          · exact gset5 0 (gset5 1 (gdrewN5 nq HGR2.out) _) _
    · have hd : Fnv.run 5 (Fnv.wide hi0 lo0) p = Fnv.wide hi lo := by
        have := hrun.out
        rw [List.drop_eq_nil_of_le (by have := HN.out; omega), Fnv.run] at this
        exact this.symm
      have HD := Lib.hid hd
      clear hd
      go_wp2
      go_ret2
      exact ⟨rfl, ⟨hi, lo, hhi, hlo, by rw [HF.out, HD.out], HBK.out⟩, hgr.out⟩

set_option maxHeartbeats 400000 in
theorem sum_5 (h : Nat) (bs : List UInt8) (w : World) (hst : St5 w h bs) :
    Calls Tryz.prog 136 #[.pointer (some ⟨h, 0, none⟩), .slice none 0 0] w fun e w' => ∃ g c, e = .returned (.slice (some ⟨g, 0, none⟩) (sum5 bs).length c) ∧ Own w' w.heap.size g c (sum5 bs) ∧ Below w.heap.size w w' := by
  obtain ⟨hi, lo, hhi, hlo, hw, hblk⟩ := hst
  have hlt : h < w.heap.size := (Array.getElem?_eq_some_iff.1 hblk).1
  have e1 : Fnv.sum 5 bs / 18446744073709551616 = hi := by rw [← hw]; unfold Fnv.wide; omega
  have e2 : Fnv.sum 5 bs % 18446744073709551616 = lo := by rw [← hw]; unfold Fnv.wide; omega
  unfold sum5
  rw [e1, e2]
  have c0 : w.cell? ⟨h, 0, none⟩ = some (.int .u64 (hi : Int)) := by rw [cell_of_row w h 0 _ _ _ hblk]; rfl
  have c1 : w.cell? ⟨h, 1, none⟩ = some (.int .u64 (lo : Int)) := by rw [cell_of_row w h 1 _ _ _ hblk]; rfl
  clear e1 e2 hw hblk
  go_enter Tryz.func136, Tryz.ntmps136
  go_wp2_with fail
  refine (beAppend64_nil hi _ hhi).mono ?_
  rintro e w1 ⟨g1, c1', rfl, h1, h2⟩
  have d1 : w1.cell? ⟨h, 1, none⟩ = some (.int .u64 (lo : Int)) := (h2.cell (p := ⟨h, 1, none⟩) hlt).trans c1
  have z1 := h2.size
  clear c0 c1
  go_wp2_with fail
  refine (beAppend64_own w.heap.size g1 c1' (be64 hi) _ lo _ (by simp [be64]) h1 z1 (by simp [be64]) hlo).mono ?_
  rintro e w2 ⟨g2, c2, rfl, h3, h4⟩
  go_wp2_with fail
  go_ret
  exact ⟨g2, c2, rfl, h3, h2.trans h4⟩

end Go.Proofs.YtemojkjcnkbpoaaGreatDoor


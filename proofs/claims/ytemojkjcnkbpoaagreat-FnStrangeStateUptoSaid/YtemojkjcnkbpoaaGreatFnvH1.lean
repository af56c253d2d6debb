/-
  hash/fnv's hash of the kind 1: New, Write, Sum. No condition but that the block is such a hash.
-/
import Derived.Test.YtemojkjcnkbpoaaGreatFnv
import Derived.Test.YtemojkjcnkbpoaaGreatSame
import Derived.Test.YtemojkjcnkbpoaaGreatApp
import Derived.Test.YtemojkjcnkbpoaaGreatBE
import Derived.Lib.EndianBits
import Derived.Deep.LoopGhost
namespace Go.Proofs.YtemojkjcnkbpoaaGreat
open Go.RowKit

def St1 (w : World) (h : Nat) (bs : List UInt8) : Prop := w.heap[h]? = some (.cells #[.int .u32 (Fnv.sum 1 bs : Int)] 74 (0, 0))
def sum1 (bs : List UInt8) : List UInt8 := be32 (Fnv.sum 1 bs)
theorem St1.keep {w w' : World} {h : Nat} {bs : List UInt8} (hs : St1 w h bs) (e : w'.heap[h]? = w.heap[h]?) : St1 w' h bs := e.trans hs

set_option maxHeartbeats 400000 in
theorem new_1 (w : World) : Calls Tryz.prog 17 #[.int .i64 1] w fun e w' => ∃ h, e = .returned (.iface 75 (.pointer (some ⟨h, 0, none⟩))) ∧ St1 w' h [] ∧ w.heap.size ≤ h ∧ h < w'.heap.size ∧ Below w.heap.size w w' := by
  go_enter Tryz.func17, Tryz.ntmps17
  go_wp2
  go_ret
  exact ⟨w.heap.size, rfl, heap_alloc_new w _, Nat.le_refl _, by simp, (Below.refl _ _).alloc (Nat.le_refl _) _⟩

set_option maxHeartbeats 1000000 in
theorem write_1 (h : Nat) (A : Option Addr) (n c B : Nat) (bs p : List UInt8) (w : World) (hst : St1 w h bs) (hn : n = p.length) (hr : Rd w B A p) (hnc : n ≤ c) (hc : c ≤ 9223372036854775807) :
    Calls Tryz.prog 107 #[.pointer (some ⟨h, 0, none⟩), .slice A n c] w fun e w' => e = .returned (.tuple #[.int .i64 (n : Int), .nilIface]) ∧ St1 w' h (bs ++ p) ∧ w.grownBy w' (some h) := by
  have hlt : Fnv.sum 1 bs < 4294967296 := by have := Fnv.sum_lt 1 bs (by omega); rwa [Fnv.md1] at this
  have hcell : w.cell? ⟨h, 0, none⟩ = some (.int .u32 (Fnv.sum 1 bs : Int)) := by rw [cell_of_row w h 0 _ _ _ hst]; rfl
  have hfz : w.frozen? ⟨h, 0, none⟩ = false := frozen_of_row w h 0 _ _ hst
  have hfin : Fnv.sum 1 (bs ++ p) = Fnv.run 1 (Fnv.sum 1 bs) p := Fnv.sum_append _ _ _
  have HST := Lib.hid hst
  have HN := Lib.hid hn
  have HF := Lib.hid hfin
  clear hst hn hfin
  obtain ⟨h0, e0⟩ : ∃ h0, Fnv.sum 1 bs = h0 := ⟨_, rfl⟩
  rw [e0] at hlt hcell HF
  clear e0
  obtain ⟨hb, rfl⟩ : ∃ hb : Nat, hb = h := ⟨_, rfl⟩
  go_enter Tryz.func107, Tryz.ntmps107
  go_wp2
  go_loopg [6, 14] n (fun gk v ix wr => ∃ (i h : Nat), i + gk = n ∧ ix = .int .i64 (i : Int) ∧ v = .int .u32 (h : Int) ∧ h < 4294967296 ∧ Hid (Fnv.run 1 h (p.drop i) = Fnv.run 1 h0 p) ∧ wr = w)
  case atStart => exact ⟨0, h0, by omega, rfl, rfl, hlt, rfl, rfl⟩
  case round =>
    obtain ⟨i, h, hi, rfl, rfl, hh, hrun, rfl⟩ := hrel
    have HI := Lib.hid hi
    have hin : i ≤ n := by omega
    clear hi
    by_cases hlti : i < n
    · obtain ⟨b, off, x, rfl, _, hx, hcx⟩ := hr.at (k := i) (by have := HN.out; omega)
      have hxb := x.toNat_lt
      have hdrop : p.drop i = x :: p.drop (i + 1) := by
        obtain ⟨hl, he⟩ := List.getElem?_eq_some_iff.1 hx
        rw [List.drop_eq_getElem_cons hl, he]
      have hr2 := hrun.out
      rw [hdrop, Fnv.run] at hr2
      have o1 : bits .xor .u32 (h : Int) (x.toNat : Int) = ((h ^^^ x.toNat : Nat) : Int) := u32_xor_nat _ _ hh (by omega)
      obtain ⟨y, hy⟩ : ∃ y, h ^^^ x.toNat = y := ⟨_, rfl⟩
      rw [hy] at o1
      have hyb : y < 4294967296 := by rw [← hy]; exact Nat.xor_lt_two_pow (n := 32) hh (by omega)
      have o2 : IntKind.u32.wrap ((y : Int) * 16777619) = ((y * 16777619 % 4294967296 : Nat) : Int) := by rw [IntKind.wrap_u32]; omega
      have hst : Fnv.step 1 h x = y * 16777619 % 4294967296 := by rw [← hy, Fnv.step1]
      have hsb := Fnv.step_lt 1 h x
      rw [hst] at hr2 hsb
      rw [Fnv.md1] at hsb
      have HR2 := Lib.hid hr2
      have hsb' : y * 16777619 % 4294967296 < 4294967296 := hsb
      have HSB := Lib.hid hsb'
      clear hst hr2 hdrop hx hy hsb hsb' hrun
      go_wp2
      go_roundg (gk - 1)
      case measure => have := HI.out; omega
      case rel => exact ⟨i + 1, y * 16777619 % 4294967296, by have := HI.out; omega, by go_num, rfl, HSB.out, HR2.out, rfl⟩
    · have hd : Fnv.run 1 h0 p = h := by
        have := hrun.out
        rw [List.drop_eq_nil_of_le (by have := HN.out; omega), Fnv.run] at this
        exact this.symm
      have HD := Lib.hid hd
      clear hd
      go_wp2
      go_ret2
      refine ⟨rfl, ?_, ⟨rfl, rfl, rfl, by simp [World.setCell], fun j _ hj => heap_setCell_other _ _ _ _ (fun e => hj (by rw [e]))⟩⟩
      show (World.setCell _ _ _).heap[hb]? = _
      rw [heap_setCell_same _ hb 0 _ _ _ HST.out, HF.out, HD.out]
      rfl

set_option maxHeartbeats 400000 in
theorem sum_1 (h : Nat) (bs : List UInt8) (w : World) (hst : St1 w h bs) :
    Calls Tryz.prog 104 #[.pointer (some ⟨h, 0, none⟩), .slice none 0 0] w fun e w' => ∃ g c, e = .returned (.slice (some ⟨g, 0, none⟩) (sum1 bs).length c) ∧ Own w' w.heap.size g c (sum1 bs) ∧ Below w.heap.size w w' := by
  have hlt : Fnv.sum 1 bs < 4294967296 := by have := Fnv.sum_lt 1 bs (by omega); rwa [Fnv.md1] at this
  have hcell : w.cell? ⟨h, 0, none⟩ = some (.int .u32 (Fnv.sum 1 bs : Int)) := by rw [cell_of_row w h 0 _ _ _ hst]; rfl
  have HST := Lib.hid hst
  clear hst
  unfold sum1
  generalize Fnv.sum 1 bs = D at *
  go_enter Tryz.func104, Tryz.ntmps104
  go_wp2_with fail
  refine (beAppend32_nil D _ hlt).mono ?_
  rintro e w1 ⟨g, c, rfl, h1, h2⟩
  go_wp2_with fail
  go_ret
  exact ⟨g, c, rfl, h1, h2⟩

end Go.Proofs.YtemojkjcnkbpoaaGreat

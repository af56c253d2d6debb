/-
  hash/fnv's hash of the kind 5 (128 bits): New, Write, Sum. No condition but that the block is such a hash.
-/
import Derived.Test.YtemojkjcnkbpoaaGreatFnvW
import Derived.Test.YtemojkjcnkbpoaaGreatSame
import Derived.Test.YtemojkjcnkbpoaaGreatBE
import Derived.Test.YtemojkjcnkbpoaaGreatMul
import Derived.Lib.EndianBits
import Derived.Deep.LoopGhost
import Derived.Deep.DeepCutAuto
import Derived.Deep.QuietTactic
import Derived.BigQuiet
import Derived.RegionTactic
import Derived.BigRegion
namespace Go.Proofs.YtemojkjcnkbpoaaGreat
open Go.RowKit

theorem gset5 {w wr : World} {h : Nat} (i : Nat) (hg : w.grownBy wr (some h)) (v : Value) : w.grownBy (wr.setCell ⟨h, i, none⟩ v) (some h) :=
  ⟨hg.os, hg.tape, hg.output, by simpa [World.setCell] using hg.size, fun k h1 h2 => (heap_setCell_other _ _ _ _ (fun e => h2 (by rw [e]))).trans (hg.block k h1 h2)⟩

theorem gdrew5 {w wr : World} {r : Option Nat} (hg : w.grownBy wr r) : w.grownBy wr.drew r := ⟨hg.os, hg.tape, hg.output, hg.size, hg.block⟩
theorem gdrewN5 {w wr : World} {r : Option Nat} (n : Nat) (hg : w.grownBy wr r) : w.grownBy (wr.drewN n) r := ⟨hg.os, hg.tape, hg.output, hg.size, hg.block⟩

/-- the hash at block h has been written bs: its two words -/
def St5 (w : World) (h : Nat) (bs : List UInt8) : Prop := ∃ hi lo : Nat, hi < 18446744073709551616 ∧ lo < 18446744073709551616 ∧ Fnv.wide hi lo = Fnv.sum 5 bs ∧ w.heap[h]? = some (.cells #[.int .u64 (hi : Int), .int .u64 (lo : Int)] 84 (0, 0))
def sum5 (bs : List UInt8) : List UInt8 := be64 (Fnv.sum 5 bs / 18446744073709551616) ++ be64 (Fnv.sum 5 bs % 18446744073709551616)
theorem St5.keep {w w' : World} {h : Nat} {bs : List UInt8} (hs : St5 w h bs) (e : w'.heap[h]? = w.heap[h]?) : St5 w' h bs := by
  obtain ⟨hi, lo, h1, h2, h3, h4⟩ := hs
  exact ⟨hi, lo, h1, h2, h3, e.trans h4⟩

set_option maxHeartbeats 400000 in
theorem new_5 (w : World) : Calls Tryz.prog 17 #[.int .i64 5] w fun e w' => ∃ h, e = .returned (.iface 85 (.pointer (some ⟨h, 0, none⟩))) ∧ St5 w' h [] ∧ w.heap.size ≤ h ∧ h < w'.heap.size ∧ Below w.heap.size w w' := by
  go_enter Tryz.func17, Tryz.ntmps17
  go_wp2
  go_ret
  refine ⟨w.heap.size, rfl, ⟨7809847782465536322, 7113472399480571277, by omega, by omega, ?_, heap_alloc_new w _⟩, Nat.le_refl _, by simp, (Below.refl _ _).alloc (Nat.le_refl _) _⟩
  simp [Fnv.sum, Fnv.run, Fnv.offset, Fnv.wide]

set_option maxRecDepth 100000 in
set_option maxHeartbeats 2000000 in
theorem write_5 (h : Nat) (A : Option Addr) (n c B : Nat) (bs p : List UInt8) (w : World) (hst : St5 w h bs) (hn : n = p.length) (hr : Rd w B A p) (hnc : n ≤ c) (hc : c ≤ 9223372036854775807) :
    Calls Tryz.prog 144 #[.pointer (some ⟨h, 0, none⟩), .slice A n c] w fun e w' => e = .returned (.tuple #[.int .i64 (n : Int), .nilIface]) ∧ St5 w' h (bs ++ p) ∧ w.grownBy w' (some h) := by
  obtain ⟨hi0, lo0, hhi0, hlo0, hw0, hblk⟩ := hst
  have hfin : Fnv.sum 5 (bs ++ p) = Fnv.run 5 (Fnv.wide hi0 lo0) p := by rw [hw0]; exact Fnv.sum_append _ _ _
  have HN := Lib.hid hn
  have HF := Lib.hid hfin
  have HBLK := Lib.hid hblk
  clear hn hfin hw0 hblk
  obtain ⟨hb, rfl⟩ : ∃ hb : Nat, hb = h := ⟨_, rfl⟩
  go_enter Tryz.func144, Tryz.ntmps144
  go_wp2
  go_loopg [12] n (fun gk ix wr => ∃ (i hi lo : Nat), i + gk = n ∧ ix = .int .i64 (i : Int) ∧ hi < 18446744073709551616 ∧ lo < 18446744073709551616 ∧ Hid (Fnv.run 5 (Fnv.wide hi lo) (p.drop i) = Fnv.run 5 (Fnv.wide hi0 lo0) p) ∧ Hid (wr.heap[hb]? = some (.cells #[.int .u64 (hi : Int), .int .u64 (lo : Int)] 84 (0, 0))) ∧ Hid (w.grownBy wr (some hb)))
  case atStart => exact ⟨0, hi0, lo0, by omega, rfl, hhi0, hlo0, rfl, HBLK, World.grownBy.refl _ _⟩
  case round =>
    obtain ⟨i, hi, lo, hin, rfl, hhi, hlo, hrun, HBK, hgr⟩ := hrel
    have HI := Lib.hid hin
    have hinn : i ≤ n := by omega
    clear hin
    by_cases hlti : i < n
    · obtain ⟨b, off, x, rfl, _, hx, hcx0⟩ := hr.at (k := i) (by have := HN.out; omega)
      have hbne : b ≠ hb := by
        rintro rfl
        rw [cell_of_row w b (off + i) _ _ _ HBLK.out] at hcx0
        have : off + i < 2 := by
          rcases Nat.lt_or_ge (off + i) 2 with h | h
          · exact h
          · rw [Array.getElem?_eq_none (by simpa using h)] at hcx0; cases hcx0
        have h01 : off + i = 0 ∨ off + i = 1 := by omega
        rcases h01 with e | e <;> rw [e] at hcx0 <;> simp at hcx0
      have hcx : wr.cell? ⟨b, off + i, none⟩ = some (.int .u8 (x.toNat : Int)) := hgr.out.cell hcx0 (by simpa using hbne)
      have cell0 : wr.cell? ⟨hb, 0, none⟩ = some (.int .u64 (hi : Int)) := by rw [cell_of_row wr hb 0 _ _ _ HBK.out]; rfl
      have cell1 : wr.cell? ⟨hb, 1, none⟩ = some (.int .u64 (lo : Int)) := by rw [cell_of_row wr hb 1 _ _ _ HBK.out]; rfl
      have hfz : ∀ j, wr.frozen? ⟨hb, j, none⟩ = false := fun j => frozen_of_row wr hb j _ _ HBK.out
      have hxb := x.toNat_lt
      have hdrop : p.drop i = x :: p.drop (i + 1) := by
        obtain ⟨hl, he⟩ := List.getElem?_eq_some_iff.1 hx
        rw [List.drop_eq_getElem_cons hl, he]
      have hr2 := hrun.out
      rw [hdrop, Fnv.run] at hr2
      have o5 : bits .xor .u64 (lo : Int) (x.toNat : Int) = ((lo ^^^ x.toNat : Nat) : Int) := bits_xor_u64_nat _ _ hlo (by omega)
      obtain ⟨y, ey⟩ : ∃ y, y = lo ^^^ x.toNat := ⟨_, rfl⟩
      rw [← ey] at o5
      have hyb : y < 18446744073709551616 := by rw [ey]; exact Nat.xor_lt_two_pow (n := 64) hlo (by omega)
      have o1 : IntKind.u64.wrap ((y : Int) * 16777216) = ((y * 16777216 % 18446744073709551616 : Nat) : Int) := by rw [IntKind.wrap_u64]; omega
      have o2 : IntKind.u64.wrap (315 * (hi : Int)) = ((315 * hi % 18446744073709551616 : Nat) : Int) := by rw [IntKind.wrap_u64]; omega
      obtain ⟨s1, e1⟩ : ∃ s1, s1 = y * 16777216 % 18446744073709551616 := ⟨_, rfl⟩
      obtain ⟨s2, e2⟩ : ∃ s2, s2 = 315 * hi % 18446744073709551616 := ⟨_, rfl⟩
      obtain ⟨qh, eq⟩ : ∃ qh, qh = 315 * y / 18446744073709551616 := ⟨_, rfl⟩
      obtain ⟨ql, el⟩ : ∃ ql, ql = 315 * y % 18446744073709551616 := ⟨_, rfl⟩
      rw [← e1] at o1
      rw [← e2] at o2
      have o3 : IntKind.u64.wrap ((s1 : Int) + s2) = (((s1 + s2) % 18446744073709551616 : Nat) : Int) := by rw [IntKind.wrap_u64]; omega
      obtain ⟨s3, e3⟩ : ∃ s3, s3 = (s1 + s2) % 18446744073709551616 := ⟨_, rfl⟩
      rw [← e3] at o3
      have o4 : IntKind.u64.wrap ((qh : Int) + s3) = (((qh + s3) % 18446744073709551616 : Nat) : Int) := by rw [IntKind.wrap_u64]; omega
      obtain ⟨s4, e4⟩ : ∃ s4, s4 = (qh + s3) % 18446744073709551616 := ⟨_, rfl⟩
      rw [← e4] at o4
      have hs4 : s4 < 18446744073709551616 := by omega
      have hql : ql < 18446744073709551616 := by omega
      have hmul : Fnv.wide hi y * 309485009821345068724781371 % 340282366920938463463374607431768211456 = Fnv.wide s4 ql := by
        rw [el]; exact Fnv.wide_mul hi y s1 s2 s3 s4 e1 e2 e3 (by rw [← eq]; exact e4)
      have hst : Fnv.step 5 (Fnv.wide hi lo) x = Fnv.wide s4 ql := by rw [Fnv.step5, Fnv.wide_xor _ _ _ hlo (by omega), ← ey, hmul]
      rw [hst] at hr2
      have HR2 := Lib.hid hr2
      have EQ := Lib.hid eq
      have EL := Lib.hid el
      clear hst hmul e1 e2 e3 e4 ey hr2 hrun hdrop hx eq el
      go_upto_region 4 with (fail)
      go_cut [] (fun wc => Hid (wc.heap[hb]? = some (.cells #[.int .u64 (hi : Int), .int .u64 (y : Int)] 84 (0, 0)) ∧ w.grownBy wc (some hb)))
      case first =>
        go_region
        all_goals (go_wp2_with fail; go_meet)
        all_goals
          refine ⟨?_, gdrew5 (gset5 1 hgr.out _)⟩
          show (World.setCell wr _ _).heap[hb]? = _
          rw [heap_setCell_same _ hb 1 _ _ _ HBK.out]
          rfl
      case rest =>
        obtain ⟨hbk2, hgr2⟩ := hcut.out
        have c0 : wc.cell? ⟨hb, 0, none⟩ = some (.int .u64 (hi : Int)) := by rw [cell_of_row wc hb 0 _ _ _ hbk2]; rfl
        have c1 : wc.cell? ⟨hb, 1, none⟩ = some (.int .u64 (y : Int)) := by rw [cell_of_row wc hb 1 _ _ _ hbk2]; rfl
        have hfz2 : ∀ j, wc.frozen? ⟨hb, j, none⟩ = false := fun j => frozen_of_row wc hb j _ _ hbk2
        have HBK2 := Lib.hid hbk2
        have HGR2 := Lib.hid hgr2
        clear hbk2 hgr2 hcut cell0 cell1 hfz
        go_wp2_with fail
        refine (mul64_any 315 y (by omega) hyb _).mono ?_
        rintro e w1 ⟨rfl, rfl⟩
        rw [← EQ.out, ← EL.out]
        go_wp2_with fail
        go_quiet (fail)
        go_wp2
        go_roundg (gk - 1)
        case measure => have := HI.out; omega
        case rel =>
          refine ⟨i + 1, s4, ql, by have := HI.out; omega, by go_num, hs4, hql, HR2.out, ?_, ?_⟩
          · show (World.setCell (World.setCell wc _ _) _ _).heap[hb]? = _
            rw [heap_setCell_same _ hb 0 _ _ _ (heap_setCell_same _ hb 1 _ _ _ HBK2.out)]
            rfl
          · exact gset5 0 (gset5 1 (gdrewN5 nq HGR2.out) _) _
    · have hd : Fnv.run 5 (Fnv.wide hi0 lo0) p = Fnv.wide hi lo := by
        have := hrun.out
        rw [List.drop_eq_nil_of_le (by have := HN.out; omega), Fnv.run] at this
        exact this.symm
      have HD := Lib.hid hd
      clear hd
      go_wp2
      go_ret2
      exact ⟨rfl, ⟨hi, lo, hhi, hlo, by rw [HF.out, HD.out], HBK.out⟩, hgr.out⟩

set_option maxHeartbeats 400000 in
theorem sum_5 (h : Nat) (bs : List UInt8) (w : World) (hst : St5 w h bs) :
    Calls Tryz.prog 142 #[.pointer (some ⟨h, 0, none⟩), .slice none 0 0] w fun e w' => ∃ g c, e = .returned (.slice (some ⟨g, 0, none⟩) (sum5 bs).length c) ∧ Own w' w.heap.size g c (sum5 bs) ∧ Below w.heap.size w w' := by
  obtain ⟨hi, lo, hhi, hlo, hw, hblk⟩ := hst
  have hlt : h < w.heap.size := (Array.getElem?_eq_some_iff.1 hblk).1
  have e1 : Fnv.sum 5 bs / 18446744073709551616 = hi := by rw [← hw]; unfold Fnv.wide; omega
  have e2 : Fnv.sum 5 bs % 18446744073709551616 = lo := by rw [← hw]; unfold Fnv.wide; omega
  unfold sum5
  rw [e1, e2]
  have c0 : w.cell? ⟨h, 0, none⟩ = some (.int .u64 (hi : Int)) := by rw [cell_of_row w h 0 _ _ _ hblk]; rfl
  have c1 : w.cell? ⟨h, 1, none⟩ = some (.int .u64 (lo : Int)) := by rw [cell_of_row w h 1 _ _ _ hblk]; rfl
  clear e1 e2 hw hblk
  go_enter Tryz.func142, Tryz.ntmps142
  go_wp2_with fail
  refine (beAppend64_nil hi _ hhi).mono ?_
  rintro e w1 ⟨g1, c1', rfl, h1, h2⟩
  have d1 : w1.cell? ⟨h, 1, none⟩ = some (.int .u64 (lo : Int)) := (h2.cell (p := ⟨h, 1, none⟩) hlt).trans c1
  have z1 := h2.size
  clear c0 c1
  go_wp2_with fail
  refine (beAppend64_own w.heap.size g1 c1' (be64 hi) _ lo _ (by simp [be64]) h1 z1 (by simp [be64]) hlo).mono ?_
  rintro e w2 ⟨g2, c2, rfl, h3, h4⟩
  go_wp2_with fail
  go_ret
  exact ⟨g2, c2, rfl, h3, h2.trans h4⟩

end Go.Proofs.YtemojkjcnkbpoaaGreat

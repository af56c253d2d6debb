/-
  spec.Number returns the number that bytes are; spec.Size the number of bytes of a sum of FNV. No condition.
-/
import Derived.Test.YtaplmdbcjckbkaaGreatFnv
import Derived.Test.YtaplmdbcjckbkaaGreatSame
import Derived.Lib.EndianBits
import Derived.Deep.LoopGhost
namespace Go.Proofs.YtaplmdbcjckbkaaGreat
open Go.RowKit

/-- the number that bytes are, the most significant one first, modulo 2^128 -/
def Fnv.num (v : Nat) : List UInt8 → Nat
  | [] => v
  | x :: r => Fnv.num ((v * 256 + x.toNat) % 340282366920938463463374607431768211456) r

theorem u64_or_low (a b : Nat) (ha : a < 18446744073709551616) (ha8 : a % 256 = 0) (hb : b < 256) : bits .or .u64 (a : Int) (b : Int) = ((a + b : Nat) : Int) := by
  have h := bits_join .u64 64 (by decide) wraps_u64 8 (a : Int) (b : Int) (by omega) (by omega) (by omega) (by omega) (by omega) (by omega)
  rw [h]
  omega

/-- a value of spec.Wide -/
abbrev wv (v : Nat) : Value := .agg #[.int .u64 ((v / 18446744073709551616 : Nat) : Int), .int .u64 ((v % 18446744073709551616 : Nat) : Int)]

set_option maxRecDepth 100000 in
set_option maxHeartbeats 1000000 in
theorem number_any (A : Option Addr) (n c B : Nat) (bs : List UInt8) (w : World) (hn : n = bs.length) (hr : Rd w B A bs) (hB : B ≤ w.heap.size) (hnc : n ≤ 9223372036854775807) :
    Calls Tryz.prog 14 #[.slice A n c] w fun e w' => e = .returned (wv (Fnv.num 0 bs)) ∧ Below w.heap.size w w' := by
  have HN := Lib.hid hn
  clear hn
  go_enter Tryz.func14, Tryz.ntmps14
  go_wp2
  go_loopg [9] n (fun gk ix wr => ∃ (i hi lo : Nat), i + gk = n ∧ ix = .int .i64 (i : Int) ∧ hi < 18446744073709551616 ∧ lo < 18446744073709551616 ∧ Hid (Fnv.num (hi * 18446744073709551616 + lo) (bs.drop i) = Fnv.num 0 bs) ∧
    Hid (wr.heap[w.heap.size + 1]? = some (.cells #[.int .u64 (hi : Int), .int .u64 (lo : Int)] 26 (0, 0))) ∧ Hid (wr.heap[w.heap.size]? = some (.cells #[.int .u64 0, .int .u64 0] 26 (0, 0))) ∧ Hid (Below w.heap.size w wr))
  case atStart => exact ⟨0, 0, 0, by omega, rfl, by omega, by omega, rfl, heap_alloc2_new w _ _, heap_alloc2_old w _ _, ((Below.refl _ _).alloc (Nat.le_refl _) _).alloc (by simp) _⟩
  case round =>
    obtain ⟨i, hi, lo, hin, rfl, hhi, hlo, hrun, hb1, hb0, hbel⟩ := hrel
    have HI := Lib.hid hin
    have hinn : i ≤ n := by omega
    clear hin
    have c0 : wr.cell? ⟨w.heap.size + 1, 0, none⟩ = some (.int .u64 (hi : Int)) := by rw [cell_of_row wr _ 0 _ _ _ hb1.out]; rfl
    have c1 : wr.cell? ⟨w.heap.size + 1, 1, none⟩ = some (.int .u64 (lo : Int)) := by rw [cell_of_row wr _ 1 _ _ _ hb1.out]; rfl
    have f1 : ∀ j, wr.frozen? ⟨w.heap.size + 1, j, none⟩ = false := fun j => frozen_of_row wr _ j _ _ hb1.out
    by_cases hlti : i < n
    · obtain ⟨b, off, x, rfl, hbB, hx, hcx0⟩ := hr.at (k := i) (by have := HN.out; omega)
      have hcx : wr.cell? ⟨b, off + i, none⟩ = some (.int .u8 (x.toNat : Int)) := (hbel.out.cell (p := ⟨b, off + i, none⟩) (show b < _ by omega)).trans hcx0
      have hxb := x.toNat_lt
      have hdrop : bs.drop i = x :: bs.drop (i + 1) := by
        obtain ⟨hl, he⟩ := List.getElem?_eq_some_iff.1 hx
        rw [List.drop_eq_getElem_cons hl, he]
      have hr2 := hrun.out
      rw [hdrop, Fnv.num] at hr2
      have o1 : IntKind.u64.wrap ((hi : Int) * 256) = ((hi * 256 % 18446744073709551616 : Nat) : Int) := by rw [IntKind.wrap_u64]; omega
      have o2 : IntKind.u64.wrap ((lo : Int) * 256) = ((lo * 256 % 18446744073709551616 : Nat) : Int) := by rw [IntKind.wrap_u64]; omega
      have o3 : (lo : Int) / 72057594037927936 = ((lo / 72057594037927936 : Nat) : Int) := by omega
      have o4 := u64_or_low (hi * 256 % 18446744073709551616) (lo / 72057594037927936) (by omega) (by omega) (by omega)
      have o5 := u64_or_low (lo * 256 % 18446744073709551616) x.toNat (by omega) (by omega) (by omega)
      have hv : ((hi * 18446744073709551616 + lo) * 256 + x.toNat) % 340282366920938463463374607431768211456 = (hi * 256 % 18446744073709551616 + lo / 72057594037927936) * 18446744073709551616 + (lo * 256 % 18446744073709551616 + x.toNat) := by omega
      have l1 : hi * 256 % 18446744073709551616 + lo / 72057594037927936 < 18446744073709551616 := by omega
      have l2 : lo * 256 % 18446744073709551616 + x.toNat < 18446744073709551616 := by omega
      rw [hv] at hr2
      obtain ⟨p1, e1⟩ : ∃ p, p = hi * 256 % 18446744073709551616 := ⟨_, rfl⟩
      obtain ⟨p2, e2⟩ : ∃ p, p = lo * 256 % 18446744073709551616 := ⟨_, rfl⟩
      obtain ⟨p3, e3⟩ : ∃ p, p = lo / 72057594037927936 := ⟨_, rfl⟩
      rw [← e1] at o1 o4 hr2 l1
      rw [← e2] at o2 o5 hr2 l2
      rw [← e3] at o3 o4 hr2 l1
      obtain ⟨q1, d1⟩ : ∃ q, q = p1 + p3 := ⟨_, rfl⟩
      obtain ⟨q2, d2⟩ : ∃ q, q = p2 + x.toNat := ⟨_, rfl⟩
      rw [← d1] at o4 hr2 l1
      rw [← d2] at o5 hr2 l2
      have HR2 := Lib.hid hr2
      clear hr2 hdrop hx hrun hv e1 e2 e3 d1 d2
      go_wp2
      go_roundg (gk - 1)
      case measure => have := HI.out; omega
      case rel =>
        refine ⟨i + 1, q1, q2, by have := HI.out; omega, by go_num, l1, l2, HR2.out, ?_, ?_, ?_⟩
        · show (World.setCell (World.setCell wr _ _) _ _).heap[w.heap.size + 1]? = _
          rw [heap_setCell_same _ _ 1 _ _ _ (heap_setCell_same _ _ 0 _ _ _ hb1.out)]
          rfl
        · show (World.setCell (World.setCell wr _ _) _ _).heap[w.heap.size]? = _
          rw [heap_setCell_other _ _ _ _ (by simp), heap_setCell_other _ _ _ _ (by simp)]
          exact hb0.out
        · exact (hbel.out.setCell (p := ⟨w.heap.size + 1, 0, none⟩) (by simp) _).setCell (p := ⟨w.heap.size + 1, 1, none⟩) (by simp) _
    · have hd : Fnv.num 0 bs = hi * 18446744073709551616 + lo := by
        have := hrun.out
        rw [List.drop_eq_nil_of_le (by have := HN.out; omega), Fnv.num] at this
        exact this.symm
      have HD := Lib.hid hd
      have z0 : wr.cell? ⟨w.heap.size, 0, none⟩ = some (.int .u64 0) := by rw [cell_of_row wr _ 0 _ _ _ hb0.out]; rfl
      have z1 : wr.cell? ⟨w.heap.size, 1, none⟩ = some (.int .u64 0) := by rw [cell_of_row wr _ 1 _ _ _ hb0.out]; rfl
      have f0 : ∀ j, wr.frozen? ⟨w.heap.size, j, none⟩ = false := fun j => frozen_of_row wr _ j _ _ hb0.out
      have hfin : Hid (wv (Fnv.num 0 bs) = .agg #[.int .u64 (hi : Int), .int .u64 (lo : Int)]) := by
        show _ = _
        rw [hd]
        have e1 : (hi * 18446744073709551616 + lo) / 18446744073709551616 = hi := by omega
        have e2 : (hi * 18446744073709551616 + lo) % 18446744073709551616 = lo := by omega
        rw [wv, e1, e2]
      clear hd hrun
      go_wp2
      refine bodyPost_ret (v := .agg #[.int .u64 (hi : Int), .int .u64 (lo : Int)]) (by simp [results, Tryz.results14, go_sem, z0, z1]) rfl ⟨by rw [hfin.out], ?_⟩
      exact (hbel.out.setCell (p := ⟨w.heap.size, 0, none⟩) (Nat.le_refl _) _).setCell (p := ⟨w.heap.size, 1, none⟩) (Nat.le_refl _) _

end Go.Proofs.YtaplmdbcjckbkaaGreat

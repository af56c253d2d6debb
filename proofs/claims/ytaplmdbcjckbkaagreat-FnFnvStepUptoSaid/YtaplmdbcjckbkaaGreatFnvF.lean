/-
  laws.fnv returns a sum of FNV as a number, and true; spec.Size and laws.isFnv. Condition: the kind is one of FNV's, at most 2 * 10^14 bytes.
-/
import Derived.Test.YtaplmdbcjckbkaaGreatSum0
import Derived.Test.YtaplmdbcjckbkaaGreatSum1
import Derived.Test.YtaplmdbcjckbkaaGreatSum2
import Derived.Test.YtaplmdbcjckbkaaGreatSum3
import Derived.Test.YtaplmdbcjckbkaaGreatSum4
import Derived.Test.YtaplmdbcjckbkaaGreatSum5
import Derived.Test.YtaplmdbcjckbkaaGreatNum
namespace Go.Proofs.YtaplmdbcjckbkaaGreat
open Go.RowKit

/-- the sum's bytes, and how many they are -/
def sumB (k : Nat) (bs : List UInt8) : List UInt8 := match k with | 0 => sum0 bs | 1 => sum1 bs | 2 => sum2 bs | 3 => sum3 bs | 4 => sum4 bs | _ => sum5 bs
def szB (k : Nat) : Nat := match k with | 0 => 4 | 1 => 4 | 2 => 8 | 3 => 8 | _ => 16

theorem kinds6 {k : Nat} (hk : k < 6) : k = 0 ∨ k = 1 ∨ k = 2 ∨ k = 3 ∨ k = 4 ∨ k = 5 := by omega

theorem num_be32 (D : Nat) (h : D < 4294967296) : Fnv.num 0 (be32 D) = D := by
  simp only [be32, Fnv.num, UInt8.toNat_ofNat']
  omega
theorem num_be64 (v D : Nat) (hv : v < 18446744073709551616) (h : D < 18446744073709551616) : Fnv.num v (be64 D) = v * 18446744073709551616 + D := by
  simp only [be64, Fnv.num, UInt8.toNat_ofNat']
  omega
theorem num_append (v : Nat) (x y : List UInt8) : Fnv.num v (x ++ y) = Fnv.num (Fnv.num v x) y := by
  induction x generalizing v with
  | nil => rfl
  | cons a x ih => exact ih _

theorem sumB_len {k : Nat} (hk : k < 6) (bs : List UInt8) : (sumB k bs).length = szB k := by
  rcases kinds6 hk with rfl | rfl | rfl | rfl | rfl | rfl <;> rfl

theorem sumB_num {k : Nat} (hk : k < 6) (bs : List UInt8) : Fnv.num 0 (sumB k bs) = Fnv.sum k bs := by
  have h := Fnv.sum_lt k bs hk
  rcases kinds6 hk with rfl | rfl | rfl | rfl | rfl | rfl
  · rw [Fnv.md0] at h; exact num_be32 _ h
  · rw [Fnv.md1] at h; exact num_be32 _ h
  · rw [Fnv.md2] at h; show Fnv.num 0 (be64 _) = _; rw [num_be64 0 _ (by omega) h]; omega
  · rw [Fnv.md3] at h; show Fnv.num 0 (be64 _) = _; rw [num_be64 0 _ (by omega) h]; omega
  · rw [Fnv.md4] at h
    show Fnv.num 0 (be64 _ ++ be64 _) = _
    rw [num_append, num_be64 0 _ (by omega) (by omega), num_be64 _ _ (by omega) (by omega)]
    omega
  · rw [Fnv.md5] at h
    show Fnv.num 0 (be64 _ ++ be64 _) = _
    rw [num_append, num_be64 0 _ (by omega) (by omega), num_be64 _ _ (by omega) (by omega)]
    omega

theorem sumOf_fnv (k : Nat) (hk : k < 6) (A : Option Addr) (n c : Nat) (bs : List UInt8) (w : World) (hn : n = bs.length) (h : Rd w w.heap.size A bs) (hl : bs.length ≤ 200000000000000) :
    Calls Tryz.prog 15 #[.int .i64 (k : Int), .slice A n c] w fun e w' => ∃ g d, e = .returned (.slice (some ⟨g, 0, none⟩) (sumB k bs).length d) ∧ Own w' w.heap.size g d (sumB k bs) ∧ Below w.heap.size w w' := by
  rcases kinds6 hk with rfl | rfl | rfl | rfl | rfl | rfl
  · exact sumOf_0 A n c bs w hn h hl
  · exact sumOf_1 A n c bs w hn h hl
  · exact sumOf_2 A n c bs w hn h hl
  · exact sumOf_3 A n c bs w hn h hl
  · exact sumOf_4 A n c bs w hn h hl
  · exact sumOf_5 A n c bs w hn h hl

set_option maxHeartbeats 400000 in
theorem size_any (k : Nat) (hk : k < 6) (w : World) :
    Calls Tryz.prog 13 #[.int .i64 (k : Int)] w fun e w' => e = .returned (.int .i64 (szB k : Int)) ∧ Below w.heap.size w w' := by
  rcases kinds6 hk with rfl | rfl | rfl | rfl | rfl | rfl
  all_goals
    go_enter Tryz.func13, Tryz.ntmps13
    go_wp2
    go_ret
    exact ⟨rfl, (Below.refl _ _).alloc (Nat.le_refl _) _⟩

set_option maxRecDepth 100000 in
set_option maxHeartbeats 1000000 in
theorem fnv_any (k : Nat) (hk : k < 6) (A : Option Addr) (n c : Nat) (bs : List UInt8) (w : World) (hn : n = bs.length) (h : Rd w w.heap.size A bs) (hl : bs.length ≤ 200000000000000) :
    Calls Tryz.prog 7 #[.int .i64 (k : Int), .slice A n c] w fun e w' => e = .returned (.tuple #[wv (Fnv.sum k bs), .bool true]) ∧ Below w.heap.size w w' := by
  have HN := Lib.hid hn
  clear hn
  have hnum := sumB_num hk bs
  have hlen := sumB_len hk bs
  go_enter Tryz.func7, Tryz.ntmps7
  go_wp2_with fail
  obtain ⟨W, hW⟩ : ∃ W, w.alloc (.cells #[.int .u64 0, .int .u64 0] 26) = W := ⟨_, rfl⟩
  have s1 : W.heap.size = w.heap.size + 1 := by subst hW; simp
  have bw : Below w.heap.size w W := by subst hW; exact (Below.refl _ _).alloc (Nat.le_refl _) _
  have hblk : W.heap[w.heap.size]? = some (.cells #[.int .u64 0, .int .u64 0] 26 (0, 0)) := by subst hW; exact heap_alloc_new w _
  rw [hW]
  clear hW
  refine (sumOf_fnv k hk A n c bs W HN.out ((h.below bw).mono (by omega)) hl).mono ?_
  rintro e w1 ⟨g, d, rfl, ho, hb1⟩
  have z1 := hb1.size
  rw [hlen]
  go_wp2_with fail
  refine (number_any _ _ _ _ (sumB k bs) w1 hlen.symm ho.rd (Nat.le_refl _) ?_).mono ?_
  · rcases kinds6 hk with rfl | rfl | rfl | rfl | rfl | rfl <;> simp [szB]
  rintro e w2 ⟨rfl, hb2⟩
  rw [hnum]
  have z2 := hb2.size
  go_wp2_with fail
  refine (size_any k hk w2).mono ?_
  rintro e w3 ⟨rfl, hb3⟩
  have z3 := hb3.size
  have e3 : w3.heap[w.heap.size]? = some (.cells #[.int .u64 0, .int .u64 0] 26 (0, 0)) := by
    rw [hb3.block _ (by omega), hb2.block _ (by omega), hb1.block _ (by omega)]; exact hblk
  have bw3 : Below w.heap.size w w3 := ((bw.trans (hb1.mono (by omega))).trans (hb2.mono (by omega))).trans (hb3.mono (by omega))
  have c0 : w3.cell? ⟨w.heap.size, 0, none⟩ = some (.int .u64 0) := by rw [cell_of_row w3 _ 0 _ _ _ e3]; rfl
  have c1 : w3.cell? ⟨w.heap.size, 1, none⟩ = some (.int .u64 0) := by rw [cell_of_row w3 _ 1 _ _ _ e3]; rfl
  have f0 : ∀ j, w3.frozen? ⟨w.heap.size, j, none⟩ = false := fun j => frozen_of_row w3 _ j _ _ e3
  have t1 : ((szB k : Int) == (szB k : Int)) = true := by simp
  obtain ⟨S, hS⟩ : ∃ S, S = Fnv.sum k bs := ⟨_, rfl⟩
  have HS := Lib.hid hS
  rw [← hS]
  clear hS
  obtain ⟨u, hu⟩ : ∃ u, u = ((S / 18446744073709551616 : Nat) : Int) := ⟨_, rfl⟩
  obtain ⟨v, hv⟩ : ∃ v, v = ((S % 18446744073709551616 : Nat) : Int) := ⟨_, rfl⟩
  have HU := Lib.hid hu
  have HV := Lib.hid hv
  rw [show wv S = .agg #[.int .u64 u, .int .u64 v] by rw [hu, hv, wv]]
  clear hu hv hnum hlen hb1 hb2 hb3 ho hblk bw e3
  go_wp2_with fail
  refine bodyPost_ret (v := .tuple #[.agg #[.int .u64 u, .int .u64 v], .bool true]) (by simp [results, Tryz.results7, go_sem, c0, c1]) rfl ⟨?_, ?_⟩
  · rw [← HS.out, show wv S = .agg #[.int .u64 u, .int .u64 v] by rw [HU.out, HV.out, wv]]
  · exact (bw3.setCell (p := ⟨w.heap.size, 0, none⟩) (Nat.le_refl _) _).setCell (p := ⟨w.heap.size, 1, none⟩) (Nat.le_refl _) _

end Go.Proofs.YtaplmdbcjckbkaaGreat

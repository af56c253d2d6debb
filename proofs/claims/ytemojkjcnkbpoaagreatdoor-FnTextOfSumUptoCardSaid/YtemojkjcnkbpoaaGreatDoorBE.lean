/-
  internal/byteorder's BEAppendUint32 and BEAppendUint64 onto nil: a new row of four or eight bytes, the first one the most significant. No condition.
-/
import Derived.Test.YtemojkjcnkbpoaaGreatDoorApp
namespace Go.Proofs.YtemojkjcnkbpoaaGreatDoor
open Go.RowKit

/-- a number of 32 bits as four bytes, the first one the most significant -/
def be32 (D : Nat) : List UInt8 := [UInt8.ofNat (D / 16777216), UInt8.ofNat (D / 65536), UInt8.ofNat (D / 256), UInt8.ofNat D]

theorem be32_cells (D : Nat) (h : D < 4294967296) : (be32 D).map bv = [.int .u8 ((D : Int) / 16777216), .int .u8 ((D : Int) / 65536 % 256), .int .u8 ((D : Int) / 256 % 256), .int .u8 ((D : Int) % 256)] := by
  simp only [be32, List.map_cons, List.map_nil, bv, UInt8.toNat_ofNat']
  simp only [List.cons.injEq, Value.int.injEq, true_and, and_true]
  omega

theorem be32_rd (w : World) (D : Nat) (h : D < 4294967296) (B : Nat) (hB : w.heap.size < B) :
    Rd (w.alloc (.cells #[.int .u8 ((D : Int) / 16777216), .int .u8 ((D : Int) / 65536 % 256), .int .u8 ((D : Int) / 256 % 256), .int .u8 ((D : Int) % 256)] 5)) B (some ⟨w.heap.size, 0, none⟩) (be32 D) := by
  have := Rd.lit w (be32 D) B hB
  rw [be32_cells D h] at this
  exact this

def be64 (D : Nat) : List UInt8 := [UInt8.ofNat (D / 72057594037927936), UInt8.ofNat (D / 281474976710656), UInt8.ofNat (D / 1099511627776), UInt8.ofNat (D / 4294967296), UInt8.ofNat (D / 16777216), UInt8.ofNat (D / 65536), UInt8.ofNat (D / 256), UInt8.ofNat D]

theorem be64_cells (D : Nat) (h : D < 18446744073709551616) : (be64 D).map bv = [.int .u8 ((D : Int) / 72057594037927936), .int .u8 ((D : Int) / 281474976710656 % 256), .int .u8 ((D : Int) / 1099511627776 % 256), .int .u8 ((D : Int) / 4294967296 % 256),
    .int .u8 ((D : Int) / 16777216 % 256), .int .u8 ((D : Int) / 65536 % 256), .int .u8 ((D : Int) / 256 % 256), .int .u8 ((D : Int) % 256)] := by
  simp only [be64, List.map_cons, List.map_nil, bv, UInt8.toNat_ofNat']
  simp only [List.cons.injEq, Value.int.injEq, true_and, and_true]
  omega

theorem be64_rd (w : World) (D : Nat) (h : D < 18446744073709551616) (B : Nat) (hB : w.heap.size < B) :
    Rd (w.alloc (.cells #[.int .u8 ((D : Int) / 72057594037927936), .int .u8 ((D : Int) / 281474976710656 % 256), .int .u8 ((D : Int) / 1099511627776 % 256), .int .u8 ((D : Int) / 4294967296 % 256),
    .int .u8 ((D : Int) / 16777216 % 256), .int .u8 ((D : Int) / 65536 % 256), .int .u8 ((D : Int) / 256 % 256), .int .u8 ((D : Int) % 256)] 5)) B (some ⟨w.heap.size, 0, none⟩) (be64 D) := by
  have := Rd.lit w (be64 D) B hB
  rw [be64_cells D h] at this
  exact this

set_option maxHeartbeats 400000 in
theorem beAppend32_nil (D : Nat) (w : World) (hD : D < 4294967296) :
    Calls Tryz.prog 107 #[.slice none 0 0, .int .u32 (D : Int)] w fun e w' => ∃ g c, e = .returned (.slice (some ⟨g, 0, none⟩) (be32 D).length c) ∧ Own w' w.heap.size g c (be32 D) ∧ Below w.heap.size w w' := by
  go_enter Tryz.func107, Tryz.ntmps107
  go_wp2_with (at_builtin; refine wpList_append_nil_bytes rfl _ _ 22 rfl Tryz.underlying22 w.heap.size (be32 D) 4 rfl (w.heap.size + 1) (some ⟨w.heap.size, 0, none⟩) 4 rfl rfl (be32_rd w D hD _ (Nat.lt_succ_self _)) (by simp [be32]) (by simp [be32]) (by simp) ?_; intro g c w' h1 h2)
  go_ret
  exact ⟨g, c, rfl, h1, ((Below.refl _ _).alloc (Nat.le_refl _) _).grown h2 (by simp) (by simp)⟩

set_option maxHeartbeats 400000 in
theorem beAppend64_nil (D : Nat) (w : World) (hD : D < 18446744073709551616) :
    Calls Tryz.prog 120 #[.slice none 0 0, .int .u64 (D : Int)] w fun e w' => ∃ g c, e = .returned (.slice (some ⟨g, 0, none⟩) (be64 D).length c) ∧ Own w' w.heap.size g c (be64 D) ∧ Below w.heap.size w w' := by
  go_enter Tryz.func120, Tryz.ntmps120
  go_wp2_with (at_builtin; refine wpList_append_nil_bytes rfl _ _ 22 rfl Tryz.underlying22 w.heap.size (be64 D) 8 rfl (w.heap.size + 1) (some ⟨w.heap.size, 0, none⟩) 8 rfl rfl (be64_rd w D hD _ (Nat.lt_succ_self _)) (by simp [be64]) (by simp [be64]) (by simp) ?_; intro g c w' h1 h2)
  go_ret
  exact ⟨g, c, rfl, h1, ((Below.refl _ _).alloc (Nat.le_refl _) _).grown h2 (by simp) (by simp)⟩

set_option maxHeartbeats 400000 in
theorem beAppend64_own (base g c : Nat) (xs : List UInt8) (n D : Nat) (w : World) (hn : n = xs.length) (hown : Own w base g c xs) (hbase : base ≤ w.heap.size) (hl : xs.length ≤ 1000) (hD : D < 18446744073709551616) :
    Calls Tryz.prog 120 #[.slice (some ⟨g, 0, none⟩) n c, .int .u64 (D : Int)] w fun e w' => ∃ g c, e = .returned (.slice (some ⟨g, 0, none⟩) (xs ++ be64 D).length c) ∧ Own w' base g c (xs ++ be64 D) ∧ Below base w w' := by
  have HN := Lib.hid hn
  clear hn
  go_enter Tryz.func120, Tryz.ntmps120
  go_wp2_with (at_builtin; refine wpList_append_bytes rfl _ _ 22 rfl Tryz.underlying22 base g c xs (be64 D) n 8 rfl HN.out (hown.alloc _) (w.heap.size + 1) (some ⟨w.heap.size, 0, none⟩) 8 rfl rfl (be64_rd w D hD _ (Nat.lt_succ_self _)) (by simp only [be64, List.length_cons, List.length_nil]; omega) (by simp; omega) ?_; intro g' c' w' h1 h2; refine Hid.out ?_)
  refine Lib.hid ?_
  have hg := hown.lt'.1
  obtain ⟨m, hm⟩ : ∃ m, m = (xs ++ be64 D).length := ⟨_, rfl⟩
  try rw [← hm]
  have HM := Lib.hid hm
  clear hm
  go_wp2
  go_ret
  refine ⟨g', c', ?_, h1, ((Below.refl _ _).alloc hbase _).grown h2 (by simp; omega) (fun j hj => by injection hj with hj; subst hj; exact hg)⟩
  first | rfl | (rw [← HM.out]; rfl) | simp

end Go.Proofs.YtemojkjcnkbpoaaGreatDoor

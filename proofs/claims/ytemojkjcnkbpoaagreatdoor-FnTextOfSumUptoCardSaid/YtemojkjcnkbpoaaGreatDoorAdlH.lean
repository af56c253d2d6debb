/-
  The hash of Adler-32: New, Write, Sum, and impl.newHash at its kind. No condition but that the digest is a digest.
-/
import Derived.Test.YtemojkjcnkbpoaaGreatDoorAdlW
import Derived.Test.YtemojkjcnkbpoaaGreatDoorOwn
import Derived.Test.YtemojkjcnkbpoaaGreatDoorBE
namespace Go.Proofs.YtemojkjcnkbpoaaGreatDoor
open Go.RowKit

set_option maxHeartbeats 400000 in
theorem newHash_6 (w : World) :
    Calls Tryz.prog 17 #[.int .i64 6] w fun e w' => e = .returned (.iface 102 (.pointer (some ⟨w.heap.size, 0, none⟩))) ∧ w.alloc (.cells #[.int .u32 1] 103) = w' := by
  go_enter Tryz.func17, Tryz.ntmps17
  go_wp2
  go_end0
  go_wp2
  go_ret
  exact ⟨rfl, rfl⟩

set_option maxHeartbeats 400000 in
theorem adlWrite_any (h a b : Nat) (A : Option Addr) (n c B : Nat) (bs : List UInt8) (w : World) (hn : n = bs.length) (hr : Rd w B A bs) (hnc : n ≤ c) (hc : c ≤ 9223372036854775807) (ha : a < 65521) (hb : b < 65521)
    (hblk : w.heap[h]? = some (.cells #[.int .u32 ((b : Int) * 65536 + a)] 103 (0, 0))) :
    Calls Tryz.prog 142 #[.pointer (some ⟨h, 0, none⟩), .slice A n c] w fun e w' => e = .returned (.tuple #[.int .i64 (n : Int), .nilIface]) ∧
      ∃ k, (w.setCell ⟨h, 0, none⟩ (.int .u32 ((Adl.adB a b bs % 65521 : Nat) * 65536 + (Adl.adA a bs % 65521 : Nat)))).drewN k = w' := by
  have hcell : w.cell? ⟨h, 0, none⟩ = some (.int .u32 ((b : Int) * 65536 + a)) := by rw [cell_of_row w h 0 _ _ _ hblk]; rfl
  have hfz : w.frozen? ⟨h, 0, none⟩ = false := frozen_of_row w h 0 _ _ hblk
  have HB := Lib.hid hblk
  have HN := Lib.hid hn
  clear hblk hn
  go_enter Tryz.func142, Tryz.ntmps142
  go_wp2_with fail
  refine (update_any a b A n c B bs _ HN.out hr hnc hc ha hb).mono ?_
  rintro e w1 ⟨rfl, k, rfl⟩
  go_wp2_with fail
  go_ret2
  exact ⟨rfl, k, rfl⟩

set_option maxHeartbeats 400000 in
theorem adlSum_any (h D : Nat) (w : World) (hD : D < 4294967296) (hblk : w.heap[h]? = some (.cells #[.int .u32 (D : Int)] 103 (0, 0))) :
    Calls Tryz.prog 140 #[.pointer (some ⟨h, 0, none⟩), .slice none 0 0] w fun e w' => ∃ g c, e = .returned (.slice (some ⟨g, 0, none⟩) 4 c) ∧ Own w' w.heap.size g c (be32 D) ∧ Below w.heap.size w w' := by
  have hcell : w.cell? ⟨h, 0, none⟩ = some (.int .u32 (D : Int)) := by rw [cell_of_row w h 0 _ _ _ hblk]; rfl
  have HB := Lib.hid hblk
  clear hblk
  go_enter Tryz.func140, Tryz.ntmps140
  go_wp2_with (at_builtin; refine wpList_append_nil_bytes rfl _ _ 22 rfl Tryz.underlying22 w.heap.size (be32 D) 4 rfl (w.heap.size + 1) (some ⟨w.heap.size, 0, none⟩) 4 rfl rfl (be32_rd w D hD _ (Nat.lt_succ_self _)) (by simp [be32]) (by simp [be32]) (by simp) ?_; intro g c w' h1 h2)
  go_ret
  exact ⟨g, c, rfl, h1, ((Below.refl _ _).alloc (Nat.le_refl _) _).grown h2 (by simp) (by simp)⟩

/-- the hash at block h has been written bs -/
def St6 (w : World) (h : Nat) (bs : List UInt8) : Prop := w.heap[h]? = some (.cells #[.int .u32 ((Adl.b bs * 65536 + Adl.a bs : Nat) : Int)] 103 (0, 0))
def sum6 (bs : List UInt8) : List UInt8 := be32 (Adl.b bs * 65536 + Adl.a bs)

theorem St6.keep {w w' : World} {h : Nat} {bs : List UInt8} (hs : St6 w h bs) (e : w'.heap[h]? = w.heap[h]?) : St6 w' h bs := e.trans hs

theorem new_6 (w : World) : Calls Tryz.prog 17 #[.int .i64 6] w fun e w' => ∃ h, e = .returned (.iface 102 (.pointer (some ⟨h, 0, none⟩))) ∧ St6 w' h [] ∧ w.heap.size ≤ h ∧ h < w'.heap.size ∧ Below w.heap.size w w' :=
  (newHash_6 w).mono fun _ _ ⟨he, hw⟩ => by
    subst hw
    exact ⟨w.heap.size, he, heap_alloc_new w _, Nat.le_refl _, by simp, (Below.refl _ _).alloc (Nat.le_refl _) _⟩

theorem Adl.ab_append (x y : List UInt8) : Adl.adA (Adl.a x) y % 65521 = Adl.a (x ++ y) ∧ Adl.adB (Adl.a x) (Adl.b x) y % 65521 = Adl.b (x ++ y) := by
  constructor
  · rw [← Adl.adA_1, ← Adl.adA_1, Adl.adA_mod, Adl.adA_append]
  · rw [← Adl.adA_1, ← Adl.adB_10, ← Adl.adB_10, Adl.adB_mod, Adl.adB_append]

theorem write_6 (h : Nat) (A : Option Addr) (n c B : Nat) (bs p : List UInt8) (w : World) (hst : St6 w h bs) (hn : n = p.length) (hr : Rd w B A p) (hnc : n ≤ c) (hc : c ≤ 9223372036854775807) :
    Calls Tryz.prog 142 #[.pointer (some ⟨h, 0, none⟩), .slice A n c] w fun e w' => e = .returned (.tuple #[.int .i64 (n : Int), .nilIface]) ∧ St6 w' h (bs ++ p) ∧ w.grownBy w' (some h) := by
  have ha := Adl.a_lt bs
  have hb := Adl.b_lt bs
  refine (adlWrite_any h (Adl.a bs) (Adl.b bs) A n c B p w hn hr hnc hc ha hb ?_).mono ?_
  · rw [hst]
    congr 3
  · rintro e w' ⟨rfl, k, rfl⟩
    obtain ⟨e1, e2⟩ := Adl.ab_append bs p
    rw [e1, e2]
    refine ⟨rfl, ?_, ⟨rfl, rfl, rfl, ?_, fun j _ hj => ?_⟩⟩
    · show (w.setCell _ _).heap[h]? = _
      rw [heap_setCell_same w h 0 _ _ _ hst]
      rfl
    · show w.heap.size ≤ (w.setCell _ _).heap.size
      simp [World.setCell]
    · show (w.setCell _ _).heap[j]? = _
      exact heap_setCell_other _ _ _ _ (fun e => hj (by rw [e]))

theorem sum_6 (h : Nat) (bs : List UInt8) (w : World) (hst : St6 w h bs) :
    Calls Tryz.prog 140 #[.pointer (some ⟨h, 0, none⟩), .slice none 0 0] w fun e w' => ∃ g c, e = .returned (.slice (some ⟨g, 0, none⟩) (sum6 bs).length c) ∧ Own w' w.heap.size g c (sum6 bs) ∧ Below w.heap.size w w' :=
  adlSum_any h _ w (by have := Adl.a_lt bs; have := Adl.b_lt bs; omega) hst

end Go.Proofs.YtemojkjcnkbpoaaGreatDoor

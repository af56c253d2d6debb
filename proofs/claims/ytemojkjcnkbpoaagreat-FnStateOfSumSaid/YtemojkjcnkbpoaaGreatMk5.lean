/-
  MarshalBinary of the hash of the kind 5: the magic and the sum. No condition.
-/
import Derived.Test.YtemojkjcnkbpoaaGreatSt
import Derived.Test.YtemojkjcnkbpoaaGreatHk5
namespace Go.Proofs.YtemojkjcnkbpoaaGreat
open Go.RowKit Go.Shelf
set_option linter.unusedVariables false

def magic5 : List UInt8 := [102, 110, 118, 6]
def state5 (bs : List UInt8) : List UInt8 := magic5 ++ sum5 bs

set_option maxRecDepth 100000 in
set_option maxHeartbeats 1000000 in
theorem appb_5 (h : Nat) (bs : List UInt8) (base g c : Nat) (w : World) (hst : St5 w h bs) (ho : Own w base g c []) (hb : base ≤ w.heap.size) (hhb : h < base) :
    Calls Tryz.prog 145 #[.pointer (some ⟨h, 0, none⟩), .slice (some ⟨g, 0, none⟩) 0 c] w fun e w' => ∃ g' c', e = .returned (.tuple #[.slice (some ⟨g', 0, none⟩) (magic5 ++ sum5 bs).length c', .nilIface]) ∧ Own w' base g' c' (magic5 ++ sum5 bs) ∧ Below base w w' := by
  obtain ⟨hi, lo, hhi, hlo, hsum, hst⟩ := hst
  have hq : Fnv.sum 5 bs / 18446744073709551616 = hi ∧ Fnv.sum 5 bs % 18446744073709551616 = lo := by rw [← hsum]; unfold Fnv.wide; omega
  have hcell : w.cell? ⟨h, 0, none⟩ = some (.int .u64 (hi : Int)) := by rw [cell_of_row w h 0 _ _ _ hst]; rfl
  have hcell1 : w.cell? ⟨h, 1, none⟩ = some (.int .u64 (lo : Int)) := by rw [cell_of_row w h 1 _ _ _ hst]; rfl
  have hhl : h < w.heap.size := (Array.getElem?_eq_some_iff.1 hst).1
  unfold sum5
  rw [hq.1, hq.2]
  clear hq hsum
  have hne : g ≠ h := by have := ho.lt'; omega
  have hgb := ho.lt'.1
  clear hst
  go_enter Tryz.func145, Tryz.ntmps145
  go_wp2_with (at_builtin; refine wpList_append_str_at rfl _ _ 22 9 rfl Tryz.underlying22 Tryz.underlying9 base g c [] 0 rfl rfl ho ⟨#[102, 110, 118, 6]⟩ rfl (by decide) hb ?_; intro g1 c1 w1 h1 h2 h3; refine Hid.out ?_)
  refine Lib.hid ?_
  have hc1 : w1.cell? ⟨h, 0, none⟩ = some (.int .u64 (hi : Int)) := (World.cell?_of_block (a := ⟨h, 0, none⟩) (h2.block h hhl (fun e => hne (by injection e with e; exact e.symm)))).trans hcell
  have hc2 : w1.cell? ⟨h, 1, none⟩ = some (.int .u64 (lo : Int)) := (World.cell?_of_block (a := ⟨h, 1, none⟩) (h2.block h hhl (fun e => hne (by injection e with e; exact e.symm)))).trans hcell1
  have z1 := h2.size
  have bw1 : Below base w w1 := (Below.refl _ _).grown h2 hb (fun k hk => by injection hk with hk; omega)
  have e4 : ([] ++ (⟨#[102, 110, 118, 6]⟩ : ByteArray).data.toList : List UInt8) = magic5 := rfl
  rw [e4] at h1
  go_wp2_with fail
  refine (beAppend64_own base g1 c1 magic5 4 hi w1 rfl h1 (by omega) (by decide) hhi).mono ?_
  rintro e w1' ⟨g1', c1', rfl, o1, b1⟩
  have hc2' : w1'.cell? ⟨h, 1, none⟩ = some (.int .u64 (lo : Int)) := (b1.cell (p := ⟨h, 1, none⟩) hhb).trans hc2
  have z1' := b1.size
  have elen : (magic5 ++ be64 hi).length = 12 := rfl
  rw [elen]
  go_wp2_with fail
  refine (beAppend64_own base g1' c1' (magic5 ++ be64 hi) 12 lo w1' rfl o1 (by omega) (by rw [elen]; omega) hlo).mono ?_
  rintro e w2 ⟨g2, c2, rfl, o2, b2'⟩
  have b2 : Below base w1 w2 := b1.trans b2'
  rw [List.append_assoc] at o2 ⊢
  obtain ⟨m, hm⟩ : ∃ m, m = (magic5 ++ (be64 hi ++ be64 lo)).length := ⟨_, rfl⟩
  rw [← hm]
  have HMM := Lib.hid hm
  clear hm
  go_wp2_with fail
  go_ret2
  exact ⟨g2, c2, by rw [HMM.out]; rfl, o2, bw1.trans b2⟩

theorem make_5 (W : World) : (Instr.makeSlice 22 (.int .i64 0) (.int .i64 20)).run Tryz.prog W = .ok (.slice (some ⟨W.heap.size, 0, none⟩) 0 20) (W.alloc (.cells #[.int .u8 0, .int .u8 0, .int .u8 0, .int .u8 0, .int .u8 0, .int .u8 0, .int .u8 0, .int .u8 0, .int .u8 0, .int .u8 0, .int .u8 0, .int .u8 0, .int .u8 0, .int .u8 0, .int .u8 0, .int .u8 0, .int .u8 0, .int .u8 0, .int .u8 0, .int .u8 0] 5)) := by kernel_rfl

set_option maxRecDepth 100000 in
set_option maxHeartbeats 1000000 in
theorem mar_5 (h : Nat) (bs : List UInt8) (w : World) (hst : St5 w h bs) :
    Calls Tryz.prog 139 #[.pointer (some ⟨h, 0, none⟩)] w fun e w' => ∃ g c, e = .returned (.tuple #[.slice (some ⟨g, 0, none⟩) (state5 bs).length c, .nilIface]) ∧ Own w' w.heap.size g c (state5 bs) ∧ Below w.heap.size w w' := by
  unfold state5
  have hmk := fun W => make_5 W
  have hhl := (hk_5).lt hst
  have HST := Lib.hid hst
  clear hst
  go_enter Tryz.func139, Tryz.ntmps139
  go_wp2_with fail
  obtain ⟨V, hV⟩ : ∃ V, w.alloc (.cells #[.int .u8 0, .int .u8 0, .int .u8 0, .int .u8 0, .int .u8 0, .int .u8 0, .int .u8 0, .int .u8 0, .int .u8 0, .int .u8 0, .int .u8 0, .int .u8 0, .int .u8 0, .int .u8 0, .int .u8 0, .int .u8 0, .int .u8 0, .int .u8 0, .int .u8 0, .int .u8 0] 5) = V := ⟨_, rfl⟩
  have sV : V.heap.size = w.heap.size + 1 := by subst hV; simp
  have bV : Below w.heap.size w V := by subst hV; exact (Below.refl _ _).alloc (Nat.le_refl _) _
  have oV : Own V w.heap.size w.heap.size 20 [] := by
    subst hV
    exact ⟨rfl, .inr ⟨w.heap.size, 20, _, rfl, Nat.le_refl _, heap_alloc_new w _, by simp, by simp [maxLen], rfl, rfl⟩⟩
  rw [hV]
  clear hV
  refine (appb_5 h bs w.heap.size w.heap.size 20 V (HST.out.keep (bV.block h hhl)) oV (by omega) hhl).mono ?_
  rintro e w' ⟨g', c', rfl, o1, b1⟩
  obtain ⟨m, hm⟩ : ∃ m, m = (magic5 ++ sum5 bs).length := ⟨_, rfl⟩
  rw [← hm]
  have bw := bV.trans b1
  have HMM := Lib.hid hm
  clear hm b1
  go_wp2_with fail
  go_ret2
  exact ⟨g', c', by rw [HMM.out]; rfl, o1, bw⟩

theorem mk_5 : MK Tryz.prog 85 139 St5 state5 := {
  ta := fun v w => by kernel_rfl
  nM := fun k a w => by kernel_rfl
  mM := fun k a w => by kernel_rfl
  eM := enters_of Tryz.func139 (by kernel_rfl) rfl
  mar := mar_5 }

end Go.Proofs.YtemojkjcnkbpoaaGreat

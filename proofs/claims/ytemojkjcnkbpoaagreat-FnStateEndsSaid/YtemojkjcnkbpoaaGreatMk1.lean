/-
  MarshalBinary of the hash of the kind 1: the magic and the sum. No condition.
-/
import Derived.Test.YtemojkjcnkbpoaaGreatSt
import Derived.Test.YtemojkjcnkbpoaaGreatHk1
namespace Go.Proofs.YtemojkjcnkbpoaaGreat
open Go.RowKit Go.Shelf
set_option linter.unusedVariables false

def magic1 : List UInt8 := [102, 110, 118, 2]
def state1 (bs : List UInt8) : List UInt8 := magic1 ++ sum1 bs

set_option maxRecDepth 100000 in
set_option maxHeartbeats 1000000 in
theorem appb_1 (h : Nat) (bs : List UInt8) (base g c : Nat) (w : World) (hst : St1 w h bs) (ho : Own w base g c []) (hb : base ≤ w.heap.size) (hhb : h < base) :
    Calls Tryz.prog 108 #[.pointer (some ⟨h, 0, none⟩), .slice (some ⟨g, 0, none⟩) 0 c] w fun e w' => ∃ g' c', e = .returned (.tuple #[.slice (some ⟨g', 0, none⟩) (magic1 ++ sum1 bs).length c', .nilIface]) ∧ Own w' base g' c' (magic1 ++ sum1 bs) ∧ Below base w w' := by
  have hlt : Fnv.sum 1 bs < 4294967296 := by have := Fnv.sum_lt 1 bs (by omega); rwa [Fnv.md1] at this
  have hcell : w.cell? ⟨h, 0, none⟩ = some (.int .u32 ((Fnv.sum 1 bs : Nat) : Int)) := by rw [cell_of_row w h 0 _ _ _ hst]; rfl
  have hhl : h < w.heap.size := (Array.getElem?_eq_some_iff.1 hst).1
  unfold sum1
  generalize Fnv.sum 1 bs = D at *
  have hne : g ≠ h := by have := ho.lt'; omega
  have hgb := ho.lt'.1
  clear hst
  go_enter Tryz.func108, Tryz.ntmps108
  go_wp2_with (at_builtin; refine wpList_append_str_at rfl _ _ 22 9 rfl Tryz.underlying22 Tryz.underlying9 base g c [] 0 rfl rfl ho ⟨#[102, 110, 118, 2]⟩ rfl (by decide) hb ?_; intro g1 c1 w1 h1 h2 h3; refine Hid.out ?_)
  refine Lib.hid ?_
  have hc1 : w1.cell? ⟨h, 0, none⟩ = some (.int .u32 (D : Int)) := (World.cell?_of_block (a := ⟨h, 0, none⟩) (h2.block h hhl (fun e => hne (by injection e with e; exact e.symm)))).trans hcell
  have z1 := h2.size
  have bw1 : Below base w w1 := (Below.refl _ _).grown h2 hb (fun k hk => by injection hk with hk; omega)
  have e4 : ([] ++ (⟨#[102, 110, 118, 2]⟩ : ByteArray).data.toList : List UInt8) = magic1 := rfl
  rw [e4] at h1
  go_wp2_with fail
  refine (beAppend32_own base g1 c1 magic1 4 D w1 rfl h1 (by omega) (by decide) hlt).mono ?_
  rintro e w2 ⟨g2, c2, rfl, o2, b2⟩
  obtain ⟨m, hm⟩ : ∃ m, m = (magic1 ++ be32 D).length := ⟨_, rfl⟩
  rw [← hm]
  have HMM := Lib.hid hm
  clear hm
  go_wp2_with fail
  go_ret2
  exact ⟨g2, c2, by rw [HMM.out]; rfl, o2, bw1.trans b2⟩

theorem make_1 (W : World) : (Instr.makeSlice 22 (.int .i64 0) (.int .i64 8)).run Tryz.prog W = .ok (.slice (some ⟨W.heap.size, 0, none⟩) 0 8) (W.alloc (.cells #[.int .u8 0, .int .u8 0, .int .u8 0, .int .u8 0, .int .u8 0, .int .u8 0, .int .u8 0, .int .u8 0] 5)) := by kernel_rfl

set_option maxRecDepth 100000 in
set_option maxHeartbeats 1000000 in
theorem mar_1 (h : Nat) (bs : List UInt8) (w : World) (hst : St1 w h bs) :
    Calls Tryz.prog 101 #[.pointer (some ⟨h, 0, none⟩)] w fun e w' => ∃ g c, e = .returned (.tuple #[.slice (some ⟨g, 0, none⟩) (state1 bs).length c, .nilIface]) ∧ Own w' w.heap.size g c (state1 bs) ∧ Below w.heap.size w w' := by
  unfold state1
  have hmk := fun W => make_1 W
  have hhl := (hk_1).lt hst
  have HST := Lib.hid hst
  clear hst
  go_enter Tryz.func101, Tryz.ntmps101
  go_wp2_with fail
  obtain ⟨V, hV⟩ : ∃ V, w.alloc (.cells #[.int .u8 0, .int .u8 0, .int .u8 0, .int .u8 0, .int .u8 0, .int .u8 0, .int .u8 0, .int .u8 0] 5) = V := ⟨_, rfl⟩
  have sV : V.heap.size = w.heap.size + 1 := by subst hV; simp
  have bV : Below w.heap.size w V := by subst hV; exact (Below.refl _ _).alloc (Nat.le_refl _) _
  have oV : Own V w.heap.size w.heap.size 8 [] := by
    subst hV
    exact ⟨rfl, .inr ⟨w.heap.size, 8, _, rfl, Nat.le_refl _, heap_alloc_new w _, by simp, by simp [maxLen], rfl, rfl⟩⟩
  rw [hV]
  clear hV
  refine (appb_1 h bs w.heap.size w.heap.size 8 V (HST.out.keep (bV.block h hhl)) oV (by omega) hhl).mono ?_
  rintro e w' ⟨g', c', rfl, o1, b1⟩
  obtain ⟨m, hm⟩ : ∃ m, m = (magic1 ++ sum1 bs).length := ⟨_, rfl⟩
  rw [← hm]
  have bw := bV.trans b1
  have HMM := Lib.hid hm
  clear hm b1
  go_wp2_with fail
  go_ret2
  exact ⟨g', c', by rw [HMM.out]; rfl, o1, bw⟩

theorem mk_1 : MK Tryz.prog 75 101 St1 state1 := {
  ta := fun v w => by kernel_rfl
  nM := fun k a w => by kernel_rfl
  mM := fun k a w => by kernel_rfl
  eM := enters_of Tryz.func101 (by kernel_rfl) rfl
  mar := mar_1 }

end Go.Proofs.YtemojkjcnkbpoaaGreat

/-
  Several texts in one: Mk0, Mk1, Mk2, Mk3, Mk4, Mk5, Mk6. Conditions: as each says.
-/
import Derived.Test.YtemojkjcnkbpoaaGreatSt
import Derived.Test.YtemojkjcnkbpoaaGreatHkA
/-
  MarshalBinary of the hash of the kind 0: the magic and the sum. No condition.
-/
namespace Go.Proofs.YtemojkjcnkbpoaaGreat
open Go.RowKit Go.Shelf
set_option linter.unusedVariables false

def magic0 : List UInt8 := [102, 110, 118, 1]
def state0 (bs : List UInt8) : List UInt8 := magic0 ++ sum0 bs

set_option maxRecDepth 100000 in
set_option maxHeartbeats 1000000 in
theorem appb_0 (h : Nat) (bs : List UInt8) (base g c : Nat) (w : World) (hst : St0 w h bs) (ho : Own w base g c []) (hb : base ≤ w.heap.size) (hhb : h < base) :
    Calls Tryz.prog 97 #[.pointer (some ⟨h, 0, none⟩), .slice (some ⟨g, 0, none⟩) 0 c] w fun e w' => ∃ g' c', e = .returned (.tuple #[.slice (some ⟨g', 0, none⟩) (magic0 ++ sum0 bs).length c', .nilIface]) ∧ Own w' base g' c' (magic0 ++ sum0 bs) ∧ Below base w w' := by
  have hlt : Fnv.sum 0 bs < 4294967296 := by have := Fnv.sum_lt 0 bs (by omega); rwa [Fnv.md0] at this
  have hcell : w.cell? ⟨h, 0, none⟩ = some (.int .u32 ((Fnv.sum 0 bs : Nat) : Int)) := by rw [cell_of_row w h 0 _ _ _ hst]; rfl
  have hhl : h < w.heap.size := (Array.getElem?_eq_some_iff.1 hst).1
  unfold sum0
  generalize Fnv.sum 0 bs = D at *
  have hne : g ≠ h := by have := ho.lt'; omega
  have hgb := ho.lt'.1
  clear hst
  go_enter Tryz.func97, Tryz.ntmps97
  go_wp2_with (at_builtin; refine wpList_append_str_at rfl _ _ 22 9 rfl Tryz.underlying22 Tryz.underlying9 base g c [] 0 rfl rfl ho ⟨#[102, 110, 118, 1]⟩ rfl (by decide) hb ?_; intro g1 c1 w1 h1 h2 h3; refine Hid.out ?_)
  refine Lib.hid ?_
  have hc1 : w1.cell? ⟨h, 0, none⟩ = some (.int .u32 (D : Int)) := (World.cell?_of_block (a := ⟨h, 0, none⟩) (h2.block h hhl (fun e => hne (by injection e with e; exact e.symm)))).trans hcell
  have z1 := h2.size
  have bw1 : Below base w w1 := (Below.refl _ _).grown h2 hb (fun k hk => by injection hk with hk; omega)
  have e4 : ([] ++ (⟨#[102, 110, 118, 1]⟩ : ByteArray).data.toList : List UInt8) = magic0 := rfl
  rw [e4] at h1
  go_wp2_with fail
  refine (beAppend32_own base g1 c1 magic0 4 D w1 rfl h1 (by omega) (by decide) hlt).mono ?_
  rintro e w2 ⟨g2, c2, rfl, o2, b2⟩
  obtain ⟨m, hm⟩ : ∃ m, m = (magic0 ++ be32 D).length := ⟨_, rfl⟩
  rw [← hm]
  have HMM := Lib.hid hm
  clear hm
  go_wp2_with fail
  go_ret2
  exact ⟨g2, c2, by rw [HMM.out]; rfl, o2, bw1.trans b2⟩

theorem make_0 (W : World) : (Instr.makeSlice 22 (.int .i64 0) (.int .i64 8)).run Tryz.prog W = .ok (.slice (some ⟨W.heap.size, 0, none⟩) 0 8) (W.alloc (.cells #[.int .u8 0, .int .u8 0, .int .u8 0, .int .u8 0, .int .u8 0, .int .u8 0, .int .u8 0, .int .u8 0] 5)) := by kernel_rfl

set_option maxRecDepth 100000 in
set_option maxHeartbeats 1000000 in
theorem mar_0 (h : Nat) (bs : List UInt8) (w : World) (hst : St0 w h bs) :
    Calls Tryz.prog 90 #[.pointer (some ⟨h, 0, none⟩)] w fun e w' => ∃ g c, e = .returned (.tuple #[.slice (some ⟨g, 0, none⟩) (state0 bs).length c, .nilIface]) ∧ Own w' w.heap.size g c (state0 bs) ∧ Below w.heap.size w w' := by
  unfold state0
  have hmk := fun W => make_0 W
  have hhl := (hk_0).lt hst
  have HST := Lib.hid hst
  clear hst
  go_enter Tryz.func90, Tryz.ntmps90
  go_wp2_with fail
  obtain ⟨V, hV⟩ : ∃ V, w.alloc (.cells #[.int .u8 0, .int .u8 0, .int .u8 0, .int .u8 0, .int .u8 0, .int .u8 0, .int .u8 0, .int .u8 0] 5) = V := ⟨_, rfl⟩
  have sV : V.heap.size = w.heap.size + 1 := by subst hV; simp
  have bV : Below w.heap.size w V := by subst hV; exact (Below.refl _ _).alloc (Nat.le_refl _) _
  have oV : Own V w.heap.size w.heap.size 8 [] := by
    subst hV
    exact ⟨rfl, .inr ⟨w.heap.size, 8, _, rfl, Nat.le_refl _, heap_alloc_new w _, by simp, by simp [maxLen], rfl, rfl⟩⟩
  rw [hV]
  clear hV
  refine (appb_0 h bs w.heap.size w.heap.size 8 V (HST.out.keep (bV.block h hhl)) oV (by omega) hhl).mono ?_
  rintro e w' ⟨g', c', rfl, o1, b1⟩
  obtain ⟨m, hm⟩ : ∃ m, m = (magic0 ++ sum0 bs).length := ⟨_, rfl⟩
  rw [← hm]
  have bw := bV.trans b1
  have HMM := Lib.hid hm
  clear hm b1
  go_wp2_with fail
  go_ret2
  exact ⟨g', c', by rw [HMM.out]; rfl, o1, bw⟩

theorem mk_0 : MK Tryz.prog 73 90 St0 state0 := {
  ta := fun v w => by kernel_rfl
  nM := fun k a w => by kernel_rfl
  mM := fun k a w => by kernel_rfl
  eM := enters_of Tryz.func90 (by kernel_rfl) rfl
  mar := mar_0 }

end Go.Proofs.YtemojkjcnkbpoaaGreat

/-
  MarshalBinary of the hash of the kind 1: the magic and the sum. No condition.
-/
namespace Go.Proofs.YtemojkjcnkbpoaaGreat
open Go.RowKit Go.Shelf
set_option linter.unusedVariables false

def magic1 : List UInt8 := [102, 110, 118, 2]
def state1 (bs : List UInt8) : List UInt8 := magic1 ++ sum1 bs

set_option maxRecDepth 100000 in
set_option maxHeartbeats 1000000 in
theorem appb_1 (h : Nat) (bs : List UInt8) (base g c : Nat) (w : World) (hst : St1 w h bs) (ho : Own w base g c []) (hb : base ≤ w.heap.size) (hhb : h < base) :
    Calls Tryz.prog 108 #[.pointer (some ⟨h, 0, none⟩), .slice (some ⟨g, 0, none⟩) 0 c] w fun e w' => ∃ g' c', e = .returned (.tuple #[.slice (some ⟨g', 0, none⟩) (magic1 ++ sum1 bs).length c', .nilIface]) ∧ Own w' base g' c' (magic1 ++ sum1 bs) ∧ Below base w w' := by
  have hlt : Fnv.sum 1 bs < 4294967296 := by have := Fnv.sum_lt 1 bs (by omega); rwa [Fnv.md1] at this
  have hcell : w.cell? ⟨h, 0, none⟩ = some (.int .u32 ((Fnv.sum 1 bs : Nat) : Int)) := by rw [cell_of_row w h 0 _ _ _ hst]; rfl
  have hhl : h < w.heap.size := (Array.getElem?_eq_some_iff.1 hst).1
  unfold sum1
  generalize Fnv.sum 1 bs = D at *
  have hne : g ≠ h := by have := ho.lt'; omega
  have hgb := ho.lt'.1
  clear hst
  go_enter Tryz.func108, Tryz.ntmps108
  go_wp2_with (at_builtin; refine wpList_append_str_at rfl _ _ 22 9 rfl Tryz.underlying22 Tryz.underlying9 base g c [] 0 rfl rfl ho ⟨#[102, 110, 118, 2]⟩ rfl (by decide) hb ?_; intro g1 c1 w1 h1 h2 h3; refine Hid.out ?_)
  refine Lib.hid ?_
  have hc1 : w1.cell? ⟨h, 0, none⟩ = some (.int .u32 (D : Int)) := (World.cell?_of_block (a := ⟨h, 0, none⟩) (h2.block h hhl (fun e => hne (by injection e with e; exact e.symm)))).trans hcell
  have z1 := h2.size
  have bw1 : Below base w w1 := (Below.refl _ _).grown h2 hb (fun k hk => by injection hk with hk; omega)
  have e4 : ([] ++ (⟨#[102, 110, 118, 2]⟩ : ByteArray).data.toList : List UInt8) = magic1 := rfl
  rw [e4] at h1
  go_wp2_with fail
  refine (beAppend32_own base g1 c1 magic1 4 D w1 rfl h1 (by omega) (by decide) hlt).mono ?_
  rintro e w2 ⟨g2, c2, rfl, o2, b2⟩
  obtain ⟨m, hm⟩ : ∃ m, m = (magic1 ++ be32 D).length := ⟨_, rfl⟩
  rw [← hm]
  have HMM := Lib.hid hm
  clear hm
  go_wp2_with fail
  go_ret2
  exact ⟨g2, c2, by rw [HMM.out]; rfl, o2, bw1.trans b2⟩

theorem make_1 (W : World) : (Instr.makeSlice 22 (.int .i64 0) (.int .i64 8)).run Tryz.prog W = .ok (.slice (some ⟨W.heap.size, 0, none⟩) 0 8) (W.alloc (.cells #[.int .u8 0, .int .u8 0, .int .u8 0, .int .u8 0, .int .u8 0, .int .u8 0, .int .u8 0, .int .u8 0] 5)) := by kernel_rfl

set_option maxRecDepth 100000 in
set_option maxHeartbeats 1000000 in
theorem mar_1 (h : Nat) (bs : List UInt8) (w : World) (hst : St1 w h bs) :
    Calls Tryz.prog 101 #[.pointer (some ⟨h, 0, none⟩)] w fun e w' => ∃ g c, e = .returned (.tuple #[.slice (some ⟨g, 0, none⟩) (state1 bs).length c, .nilIface]) ∧ Own w' w.heap.size g c (state1 bs) ∧ Below w.heap.size w w' := by
  unfold state1
  have hmk := fun W => make_1 W
  have hhl := (hk_1).lt hst
  have HST := Lib.hid hst
  clear hst
  go_enter Tryz.func101, Tryz.ntmps101
  go_wp2_with fail
  obtain ⟨V, hV⟩ : ∃ V, w.alloc (.cells #[.int .u8 0, .int .u8 0, .int .u8 0, .int .u8 0, .int .u8 0, .int .u8 0, .int .u8 0, .int .u8 0] 5) = V := ⟨_, rfl⟩
  have sV : V.heap.size = w.heap.size + 1 := by subst hV; simp
  have bV : Below w.heap.size w V := by subst hV; exact (Below.refl _ _).alloc (Nat.le_refl _) _
  have oV : Own V w.heap.size w.heap.size 8 [] := by
    subst hV
    exact ⟨rfl, .inr ⟨w.heap.size, 8, _, rfl, Nat.le_refl _, heap_alloc_new w _, by simp, by simp [maxLen], rfl, rfl⟩⟩
  rw [hV]
  clear hV
  refine (appb_1 h bs w.heap.size w.heap.size 8 V (HST.out.keep (bV.block h hhl)) oV (by omega) hhl).mono ?_
  rintro e w' ⟨g', c', rfl, o1, b1⟩
  obtain ⟨m, hm⟩ : ∃ m, m = (magic1 ++ sum1 bs).length := ⟨_, rfl⟩
  rw [← hm]
  have bw := bV.trans b1
  have HMM := Lib.hid hm
  clear hm b1
  go_wp2_with fail
  go_ret2
  exact ⟨g', c', by rw [HMM.out]; rfl, o1, bw⟩

theorem mk_1 : MK Tryz.prog 75 101 St1 state1 := {
  ta := fun v w => by kernel_rfl
  nM := fun k a w => by kernel_rfl
  mM := fun k a w => by kernel_rfl
  eM := enters_of Tryz.func101 (by kernel_rfl) rfl
  mar := mar_1 }

end Go.Proofs.YtemojkjcnkbpoaaGreat

/-
  MarshalBinary of the hash of the kind 2: the magic and the sum. No condition.
-/
namespace Go.Proofs.YtemojkjcnkbpoaaGreat
open Go.RowKit Go.Shelf
set_option linter.unusedVariables false

def magic2 : List UInt8 := [102, 110, 118, 3]
def state2 (bs : List UInt8) : List UInt8 := magic2 ++ sum2 bs

set_option maxRecDepth 100000 in
set_option maxHeartbeats 1000000 in
theorem appb_2 (h : Nat) (bs : List UInt8) (base g c : Nat) (w : World) (hst : St2 w h bs) (ho : Own w base g c []) (hb : base ≤ w.heap.size) (hhb : h < base) :
    Calls Tryz.prog 117 #[.pointer (some ⟨h, 0, none⟩), .slice (some ⟨g, 0, none⟩) 0 c] w fun e w' => ∃ g' c', e = .returned (.tuple #[.slice (some ⟨g', 0, none⟩) (magic2 ++ sum2 bs).length c', .nilIface]) ∧ Own w' base g' c' (magic2 ++ sum2 bs) ∧ Below base w w' := by
  have hlt : Fnv.sum 2 bs < 18446744073709551616 := by have := Fnv.sum_lt 2 bs (by omega); rwa [Fnv.md2] at this
  have hcell : w.cell? ⟨h, 0, none⟩ = some (.int .u64 ((Fnv.sum 2 bs : Nat) : Int)) := by rw [cell_of_row w h 0 _ _ _ hst]; rfl
  have hhl : h < w.heap.size := (Array.getElem?_eq_some_iff.1 hst).1
  unfold sum2
  generalize Fnv.sum 2 bs = D at *
  have hne : g ≠ h := by have := ho.lt'; omega
  have hgb := ho.lt'.1
  clear hst
  go_enter Tryz.func117, Tryz.ntmps117
  go_wp2_with (at_builtin; refine wpList_append_str_at rfl _ _ 22 9 rfl Tryz.underlying22 Tryz.underlying9 base g c [] 0 rfl rfl ho ⟨#[102, 110, 118, 3]⟩ rfl (by decide) hb ?_; intro g1 c1 w1 h1 h2 h3; refine Hid.out ?_)
  refine Lib.hid ?_
  have hc1 : w1.cell? ⟨h, 0, none⟩ = some (.int .u64 (D : Int)) := (World.cell?_of_block (a := ⟨h, 0, none⟩) (h2.block h hhl (fun e => hne (by injection e with e; exact e.symm)))).trans hcell
  have z1 := h2.size
  have bw1 : Below base w w1 := (Below.refl _ _).grown h2 hb (fun k hk => by injection hk with hk; omega)
  have e4 : ([] ++ (⟨#[102, 110, 118, 3]⟩ : ByteArray).data.toList : List UInt8) = magic2 := rfl
  rw [e4] at h1
  go_wp2_with fail
  refine (beAppend64_own base g1 c1 magic2 4 D w1 rfl h1 (by omega) (by decide) hlt).mono ?_
  rintro e w2 ⟨g2, c2, rfl, o2, b2⟩
  obtain ⟨m, hm⟩ : ∃ m, m = (magic2 ++ be64 D).length := ⟨_, rfl⟩
  rw [← hm]
  have HMM := Lib.hid hm
  clear hm
  go_wp2_with fail
  go_ret2
  exact ⟨g2, c2, by rw [HMM.out]; rfl, o2, bw1.trans b2⟩

theorem make_2 (W : World) : (Instr.makeSlice 22 (.int .i64 0) (.int .i64 12)).run Tryz.prog W = .ok (.slice (some ⟨W.heap.size, 0, none⟩) 0 12) (W.alloc (.cells #[.int .u8 0, .int .u8 0, .int .u8 0, .int .u8 0, .int .u8 0, .int .u8 0, .int .u8 0, .int .u8 0, .int .u8 0, .int .u8 0, .int .u8 0, .int .u8 0] 5)) := by kernel_rfl

set_option maxRecDepth 100000 in
set_option maxHeartbeats 1000000 in
theorem mar_2 (h : Nat) (bs : List UInt8) (w : World) (hst : St2 w h bs) :
    Calls Tryz.prog 110 #[.pointer (some ⟨h, 0, none⟩)] w fun e w' => ∃ g c, e = .returned (.tuple #[.slice (some ⟨g, 0, none⟩) (state2 bs).length c, .nilIface]) ∧ Own w' w.heap.size g c (state2 bs) ∧ Below w.heap.size w w' := by
  unfold state2
  have hmk := fun W => make_2 W
  have hhl := (hk_2).lt hst
  have HST := Lib.hid hst
  clear hst
  go_enter Tryz.func110, Tryz.ntmps110
  go_wp2_with fail
  obtain ⟨V, hV⟩ : ∃ V, w.alloc (.cells #[.int .u8 0, .int .u8 0, .int .u8 0, .int .u8 0, .int .u8 0, .int .u8 0, .int .u8 0, .int .u8 0, .int .u8 0, .int .u8 0, .int .u8 0, .int .u8 0] 5) = V := ⟨_, rfl⟩
  have sV : V.heap.size = w.heap.size + 1 := by subst hV; simp
  have bV : Below w.heap.size w V := by subst hV; exact (Below.refl _ _).alloc (Nat.le_refl _) _
  have oV : Own V w.heap.size w.heap.size 12 [] := by
    subst hV
    exact ⟨rfl, .inr ⟨w.heap.size, 12, _, rfl, Nat.le_refl _, heap_alloc_new w _, by simp, by simp [maxLen], rfl, rfl⟩⟩
  rw [hV]
  clear hV
  refine (appb_2 h bs w.heap.size w.heap.size 12 V (HST.out.keep (bV.block h hhl)) oV (by omega) hhl).mono ?_
  rintro e w' ⟨g', c', rfl, o1, b1⟩
  obtain ⟨m, hm⟩ : ∃ m, m = (magic2 ++ sum2 bs).length := ⟨_, rfl⟩
  rw [← hm]
  have bw := bV.trans b1
  have HMM := Lib.hid hm
  clear hm b1
  go_wp2_with fail
  go_ret2
  exact ⟨g', c', by rw [HMM.out]; rfl, o1, bw⟩

theorem mk_2 : MK Tryz.prog 78 110 St2 state2 := {
  ta := fun v w => by kernel_rfl
  nM := fun k a w => by kernel_rfl
  mM := fun k a w => by kernel_rfl
  eM := enters_of Tryz.func110 (by kernel_rfl) rfl
  mar := mar_2 }

end Go.Proofs.YtemojkjcnkbpoaaGreat

/-
  MarshalBinary of the hash of the kind 3: the magic and the sum. No condition.
-/
namespace Go.Proofs.YtemojkjcnkbpoaaGreat
open Go.RowKit Go.Shelf
set_option linter.unusedVariables false

def magic3 : List UInt8 := [102, 110, 118, 4]
def state3 (bs : List UInt8) : List UInt8 := magic3 ++ sum3 bs

set_option maxRecDepth 100000 in
set_option maxHeartbeats 1000000 in
theorem appb_3 (h : Nat) (bs : List UInt8) (base g c : Nat) (w : World) (hst : St3 w h bs) (ho : Own w base g c []) (hb : base ≤ w.heap.size) (hhb : h < base) :
    Calls Tryz.prog 128 #[.pointer (some ⟨h, 0, none⟩), .slice (some ⟨g, 0, none⟩) 0 c] w fun e w' => ∃ g' c', e = .returned (.tuple #[.slice (some ⟨g', 0, none⟩) (magic3 ++ sum3 bs).length c', .nilIface]) ∧ Own w' base g' c' (magic3 ++ sum3 bs) ∧ Below base w w' := by
  have hlt : Fnv.sum 3 bs < 18446744073709551616 := by have := Fnv.sum_lt 3 bs (by omega); rwa [Fnv.md3] at this
  have hcell : w.cell? ⟨h, 0, none⟩ = some (.int .u64 ((Fnv.sum 3 bs : Nat) : Int)) := by rw [cell_of_row w h 0 _ _ _ hst]; rfl
  have hhl : h < w.heap.size := (Array.getElem?_eq_some_iff.1 hst).1
  unfold sum3
  generalize Fnv.sum 3 bs = D at *
  have hne : g ≠ h := by have := ho.lt'; omega
  have hgb := ho.lt'.1
  clear hst
  go_enter Tryz.func128, Tryz.ntmps128
  go_wp2_with (at_builtin; refine wpList_append_str_at rfl _ _ 22 9 rfl Tryz.underlying22 Tryz.underlying9 base g c [] 0 rfl rfl ho ⟨#[102, 110, 118, 4]⟩ rfl (by decide) hb ?_; intro g1 c1 w1 h1 h2 h3; refine Hid.out ?_)
  refine Lib.hid ?_
  have hc1 : w1.cell? ⟨h, 0, none⟩ = some (.int .u64 (D : Int)) := (World.cell?_of_block (a := ⟨h, 0, none⟩) (h2.block h hhl (fun e => hne (by injection e with e; exact e.symm)))).trans hcell
  have z1 := h2.size
  have bw1 : Below base w w1 := (Below.refl _ _).grown h2 hb (fun k hk => by injection hk with hk; omega)
  have e4 : ([] ++ (⟨#[102, 110, 118, 4]⟩ : ByteArray).data.toList : List UInt8) = magic3 := rfl
  rw [e4] at h1
  go_wp2_with fail
  refine (beAppend64_own base g1 c1 magic3 4 D w1 rfl h1 (by omega) (by decide) hlt).mono ?_
  rintro e w2 ⟨g2, c2, rfl, o2, b2⟩
  obtain ⟨m, hm⟩ : ∃ m, m = (magic3 ++ be64 D).length := ⟨_, rfl⟩
  rw [← hm]
  have HMM := Lib.hid hm
  clear hm
  go_wp2_with fail
  go_ret2
  exact ⟨g2, c2, by rw [HMM.out]; rfl, o2, bw1.trans b2⟩

theorem make_3 (W : World) : (Instr.makeSlice 22 (.int .i64 0) (.int .i64 12)).run Tryz.prog W = .ok (.slice (some ⟨W.heap.size, 0, none⟩) 0 12) (W.alloc (.cells #[.int .u8 0, .int .u8 0, .int .u8 0, .int .u8 0, .int .u8 0, .int .u8 0, .int .u8 0, .int .u8 0, .int .u8 0, .int .u8 0, .int .u8 0, .int .u8 0] 5)) := by kernel_rfl

set_option maxRecDepth 100000 in
set_option maxHeartbeats 1000000 in
theorem mar_3 (h : Nat) (bs : List UInt8) (w : World) (hst : St3 w h bs) :
    Calls Tryz.prog 121 #[.pointer (some ⟨h, 0, none⟩)] w fun e w' => ∃ g c, e = .returned (.tuple #[.slice (some ⟨g, 0, none⟩) (state3 bs).length c, .nilIface]) ∧ Own w' w.heap.size g c (state3 bs) ∧ Below w.heap.size w w' := by
  unfold state3
  have hmk := fun W => make_3 W
  have hhl := (hk_3).lt hst
  have HST := Lib.hid hst
  clear hst
  go_enter Tryz.func121, Tryz.ntmps121
  go_wp2_with fail
  obtain ⟨V, hV⟩ : ∃ V, w.alloc (.cells #[.int .u8 0, .int .u8 0, .int .u8 0, .int .u8 0, .int .u8 0, .int .u8 0, .int .u8 0, .int .u8 0, .int .u8 0, .int .u8 0, .int .u8 0, .int .u8 0] 5) = V := ⟨_, rfl⟩
  have sV : V.heap.size = w.heap.size + 1 := by subst hV; simp
  have bV : Below w.heap.size w V := by subst hV; exact (Below.refl _ _).alloc (Nat.le_refl _) _
  have oV : Own V w.heap.size w.heap.size 12 [] := by
    subst hV
    exact ⟨rfl, .inr ⟨w.heap.size, 12, _, rfl, Nat.le_refl _, heap_alloc_new w _, by simp, by simp [maxLen], rfl, rfl⟩⟩
  rw [hV]
  clear hV
  refine (appb_3 h bs w.heap.size w.heap.size 12 V (HST.out.keep (bV.block h hhl)) oV (by omega) hhl).mono ?_
  rintro e w' ⟨g', c', rfl, o1, b1⟩
  obtain ⟨m, hm⟩ : ∃ m, m = (magic3 ++ sum3 bs).length := ⟨_, rfl⟩
  rw [← hm]
  have bw := bV.trans b1
  have HMM := Lib.hid hm
  clear hm b1
  go_wp2_with fail
  go_ret2
  exact ⟨g', c', by rw [HMM.out]; rfl, o1, bw⟩

theorem mk_3 : MK Tryz.prog 80 121 St3 state3 := {
  ta := fun v w => by kernel_rfl
  nM := fun k a w => by kernel_rfl
  mM := fun k a w => by kernel_rfl
  eM := enters_of Tryz.func121 (by kernel_rfl) rfl
  mar := mar_3 }

end Go.Proofs.YtemojkjcnkbpoaaGreat

/-
  MarshalBinary of the hash of the kind 4: the magic and the sum. No condition.
-/
namespace Go.Proofs.YtemojkjcnkbpoaaGreat
open Go.RowKit Go.Shelf
set_option linter.unusedVariables false

def magic4 : List UInt8 := [102, 110, 118, 5]
def state4 (bs : List UInt8) : List UInt8 := magic4 ++ sum4 bs

set_option maxRecDepth 100000 in
set_option maxHeartbeats 1000000 in
theorem appb_4 (h : Nat) (bs : List UInt8) (base g c : Nat) (w : World) (hst : St4 w h bs) (ho : Own w base g c []) (hb : base ≤ w.heap.size) (hhb : h < base) :
    Calls Tryz.prog 136 #[.pointer (some ⟨h, 0, none⟩), .slice (some ⟨g, 0, none⟩) 0 c] w fun e w' => ∃ g' c', e = .returned (.tuple #[.slice (some ⟨g', 0, none⟩) (magic4 ++ sum4 bs).length c', .nilIface]) ∧ Own w' base g' c' (magic4 ++ sum4 bs) ∧ Below base w w' := by
  obtain ⟨hi, lo, hhi, hlo, hsum, hst⟩ := hst
  have hq : Fnv.sum 4 bs / 18446744073709551616 = hi ∧ Fnv.sum 4 bs % 18446744073709551616 = lo := by rw [← hsum]; unfold Fnv.wide; omega
  have hcell : w.cell? ⟨h, 0, none⟩ = some (.int .u64 (hi : Int)) := by rw [cell_of_row w h 0 _ _ _ hst]; rfl
  have hcell1 : w.cell? ⟨h, 1, none⟩ = some (.int .u64 (lo : Int)) := by rw [cell_of_row w h 1 _ _ _ hst]; rfl
  have hhl : h < w.heap.size := (Array.getElem?_eq_some_iff.1 hst).1
  unfold sum4
  rw [hq.1, hq.2]
  clear hq hsum
  have hne : g ≠ h := by have := ho.lt'; omega
  have hgb := ho.lt'.1
  clear hst
  go_enter Tryz.func136, Tryz.ntmps136
  go_wp2_with (at_builtin; refine wpList_append_str_at rfl _ _ 22 9 rfl Tryz.underlying22 Tryz.underlying9 base g c [] 0 rfl rfl ho ⟨#[102, 110, 118, 5]⟩ rfl (by decide) hb ?_; intro g1 c1 w1 h1 h2 h3; refine Hid.out ?_)
  refine Lib.hid ?_
  have hc1 : w1.cell? ⟨h, 0, none⟩ = some (.int .u64 (hi : Int)) := (World.cell?_of_block (a := ⟨h, 0, none⟩) (h2.block h hhl (fun e => hne (by injection e with e; exact e.symm)))).trans hcell
  have hc2 : w1.cell? ⟨h, 1, none⟩ = some (.int .u64 (lo : Int)) := (World.cell?_of_block (a := ⟨h, 1, none⟩) (h2.block h hhl (fun e => hne (by injection e with e; exact e.symm)))).trans hcell1
  have z1 := h2.size
  have bw1 : Below base w w1 := (Below.refl _ _).grown h2 hb (fun k hk => by injection hk with hk; omega)
  have e4 : ([] ++ (⟨#[102, 110, 118, 5]⟩ : ByteArray).data.toList : List UInt8) = magic4 := rfl
  rw [e4] at h1
  go_wp2_with fail
  refine (beAppend64_own base g1 c1 magic4 4 hi w1 rfl h1 (by omega) (by decide) hhi).mono ?_
  rintro e w1' ⟨g1', c1', rfl, o1, b1⟩
  have hc2' : w1'.cell? ⟨h, 1, none⟩ = some (.int .u64 (lo : Int)) := (b1.cell (p := ⟨h, 1, none⟩) hhb).trans hc2
  have z1' := b1.size
  have elen : (magic4 ++ be64 hi).length = 12 := rfl
  rw [elen]
  go_wp2_with fail
  refine (beAppend64_own base g1' c1' (magic4 ++ be64 hi) 12 lo w1' rfl o1 (by omega) (by rw [elen]; omega) hlo).mono ?_
  rintro e w2 ⟨g2, c2, rfl, o2, b2'⟩
  have b2 : Below base w1 w2 := b1.trans b2'
  rw [List.append_assoc] at o2 ⊢
  obtain ⟨m, hm⟩ : ∃ m, m = (magic4 ++ (be64 hi ++ be64 lo)).length := ⟨_, rfl⟩
  rw [← hm]
  have HMM := Lib.hid hm
  clear hm
  go_wp2_with fail
  go_ret2
  exact ⟨g2, c2, by rw [HMM.out]; rfl, o2, bw1.trans b2⟩

theorem make_4 (W : World) : (Instr.makeSlice 22 (.int .i64 0) (.int .i64 20)).run Tryz.prog W = .ok (.slice (some ⟨W.heap.size, 0, none⟩) 0 20) (W.alloc (.cells #[.int .u8 0, .int .u8 0, .int .u8 0, .int .u8 0, .int .u8 0, .int .u8 0, .int .u8 0, .int .u8 0, .int .u8 0, .int .u8 0, .int .u8 0, .int .u8 0, .int .u8 0, .int .u8 0, .int .u8 0, .int .u8 0, .int .u8 0, .int .u8 0, .int .u8 0, .int .u8 0] 5)) := by kernel_rfl

set_option maxRecDepth 100000 in
set_option maxHeartbeats 1000000 in
theorem mar_4 (h : Nat) (bs : List UInt8) (w : World) (hst : St4 w h bs) :
    Calls Tryz.prog 130 #[.pointer (some ⟨h, 0, none⟩)] w fun e w' => ∃ g c, e = .returned (.tuple #[.slice (some ⟨g, 0, none⟩) (state4 bs).length c, .nilIface]) ∧ Own w' w.heap.size g c (state4 bs) ∧ Below w.heap.size w w' := by
  unfold state4
  have hmk := fun W => make_4 W
  have hhl := (hk_4).lt hst
  have HST := Lib.hid hst
  clear hst
  go_enter Tryz.func130, Tryz.ntmps130
  go_wp2_with fail
  obtain ⟨V, hV⟩ : ∃ V, w.alloc (.cells #[.int .u8 0, .int .u8 0, .int .u8 0, .int .u8 0, .int .u8 0, .int .u8 0, .int .u8 0, .int .u8 0, .int .u8 0, .int .u8 0, .int .u8 0, .int .u8 0, .int .u8 0, .int .u8 0, .int .u8 0, .int .u8 0, .int .u8 0, .int .u8 0, .int .u8 0, .int .u8 0] 5) = V := ⟨_, rfl⟩
  have sV : V.heap.size = w.heap.size + 1 := by subst hV; simp
  have bV : Below w.heap.size w V := by subst hV; exact (Below.refl _ _).alloc (Nat.le_refl _) _
  have oV : Own V w.heap.size w.heap.size 20 [] := by
    subst hV
    exact ⟨rfl, .inr ⟨w.heap.size, 20, _, rfl, Nat.le_refl _, heap_alloc_new w _, by simp, by simp [maxLen], rfl, rfl⟩⟩
  rw [hV]
  clear hV
  refine (appb_4 h bs w.heap.size w.heap.size 20 V (HST.out.keep (bV.block h hhl)) oV (by omega) hhl).mono ?_
  rintro e w' ⟨g', c', rfl, o1, b1⟩
  obtain ⟨m, hm⟩ : ∃ m, m = (magic4 ++ sum4 bs).length := ⟨_, rfl⟩
  rw [← hm]
  have bw := bV.trans b1
  have HMM := Lib.hid hm
  clear hm b1
  go_wp2_with fail
  go_ret2
  exact ⟨g', c', by rw [HMM.out]; rfl, o1, bw⟩

theorem mk_4 : MK Tryz.prog 83 130 St4 state4 := {
  ta := fun v w => by kernel_rfl
  nM := fun k a w => by kernel_rfl
  mM := fun k a w => by kernel_rfl
  eM := enters_of Tryz.func130 (by kernel_rfl) rfl
  mar := mar_4 }

end Go.Proofs.YtemojkjcnkbpoaaGreat

/-
  MarshalBinary of the hash of the kind 5: the magic and the sum. No condition.
-/
namespace Go.Proofs.YtemojkjcnkbpoaaGreat
open Go.RowKit Go.Shelf
set_option linter.unusedVariables false

def magic5 : List UInt8 := [102, 110, 118, 6]
def state5 (bs : List UInt8) : List UInt8 := magic5 ++ sum5 bs

set_option maxRecDepth 100000 in
set_option maxHeartbeats 1000000 in
theorem appb_5 (h : Nat) (bs : List UInt8) (base g c : Nat) (w : World) (hst : St5 w h bs) (ho : Own w base g c []) (hb : base ≤ w.heap.size) (hhb : h < base) :
    Calls Tryz.prog 145 #[.pointer (some ⟨h, 0, none⟩), .slice (some ⟨g, 0, none⟩) 0 c] w fun e w' => ∃ g' c', e = .returned (.tuple #[.slice (some ⟨g', 0, none⟩) (magic5 ++ sum5 bs).length c', .nilIface]) ∧ Own w' base g' c' (magic5 ++ sum5 bs) ∧ Below base w w' := by
  obtain ⟨hi, lo, hhi, hlo, hsum, hst⟩ := hst
  have hq : Fnv.sum 5 bs / 18446744073709551616 = hi ∧ Fnv.sum 5 bs % 18446744073709551616 = lo := by rw [← hsum]; unfold Fnv.wide; omega
  have hcell : w.cell? ⟨h, 0, none⟩ = some (.int .u64 (hi : Int)) := by rw [cell_of_row w h 0 _ _ _ hst]; rfl
  have hcell1 : w.cell? ⟨h, 1, none⟩ = some (.int .u64 (lo : Int)) := by rw [cell_of_row w h 1 _ _ _ hst]; rfl
  have hhl : h < w.heap.size := (Array.getElem?_eq_some_iff.1 hst).1
  unfold sum5
  rw [hq.1, hq.2]
  clear hq hsum
  have hne : g ≠ h := by have := ho.lt'; omega
  have hgb := ho.lt'.1
  clear hst
  go_enter Tryz.func145, Tryz.ntmps145
  go_wp2_with (at_builtin; refine wpList_append_str_at rfl _ _ 22 9 rfl Tryz.underlying22 Tryz.underlying9 base g c [] 0 rfl rfl ho ⟨#[102, 110, 118, 6]⟩ rfl (by decide) hb ?_; intro g1 c1 w1 h1 h2 h3; refine Hid.out ?_)
  refine Lib.hid ?_
  have hc1 : w1.cell? ⟨h, 0, none⟩ = some (.int .u64 (hi : Int)) := (World.cell?_of_block (a := ⟨h, 0, none⟩) (h2.block h hhl (fun e => hne (by injection e with e; exact e.symm)))).trans hcell
  have hc2 : w1.cell? ⟨h, 1, none⟩ = some (.int .u64 (lo : Int)) := (World.cell?_of_block (a := ⟨h, 1, none⟩) (h2.block h hhl (fun e => hne (by injection e with e; exact e.symm)))).trans hcell1
  have z1 := h2.size
  have bw1 : Below base w w1 := (Below.refl _ _).grown h2 hb (fun k hk => by injection hk with hk; omega)
  have e4 : ([] ++ (⟨#[102, 110, 118, 6]⟩ : ByteArray).data.toList : List UInt8) = magic5 := rfl
  rw [e4] at h1
  go_wp2_with fail
  refine (beAppend64_own base g1 c1 magic5 4 hi w1 rfl h1 (by omega) (by decide) hhi).mono ?_
  rintro e w1' ⟨g1', c1', rfl, o1, b1⟩
  have hc2' : w1'.cell? ⟨h, 1, none⟩ = some (.int .u64 (lo : Int)) := (b1.cell (p := ⟨h, 1, none⟩) hhb).trans hc2
  have z1' := b1.size
  have elen : (magic5 ++ be64 hi).length = 12 := rfl
  rw [elen]
  go_wp2_with fail
  refine (beAppend64_own base g1' c1' (magic5 ++ be64 hi) 12 lo w1' rfl o1 (by omega) (by rw [elen]; omega) hlo).mono ?_
  rintro e w2 ⟨g2, c2, rfl, o2, b2'⟩
  have b2 : Below base w1 w2 := b1.trans b2'
  rw [List.append_assoc] at o2 ⊢
  obtain ⟨m, hm⟩ : ∃ m, m = (magic5 ++ (be64 hi ++ be64 lo)).length := ⟨_, rfl⟩
  rw [← hm]
  have HMM := Lib.hid hm
  clear hm
  go_wp2_with fail
  go_ret2
  exact ⟨g2, c2, by rw [HMM.out]; rfl, o2, bw1.trans b2⟩

theorem make_5 (W : World) : (Instr.makeSlice 22 (.int .i64 0) (.int .i64 20)).run Tryz.prog W = .ok (.slice (some ⟨W.heap.size, 0, none⟩) 0 20) (W.alloc (.cells #[.int .u8 0, .int .u8 0, .int .u8 0, .int .u8 0, .int .u8 0, .int .u8 0, .int .u8 0, .int .u8 0, .int .u8 0, .int .u8 0, .int .u8 0, .int .u8 0, .int .u8 0, .int .u8 0, .int .u8 0, .int .u8 0, .int .u8 0, .int .u8 0, .int .u8 0, .int .u8 0] 5)) := by kernel_rfl

set_option maxRecDepth 100000 in
set_option maxHeartbeats 1000000 in
theorem mar_5 (h : Nat) (bs : List UInt8) (w : World) (hst : St5 w h bs) :
    Calls Tryz.prog 139 #[.pointer (some ⟨h, 0, none⟩)] w fun e w' => ∃ g c, e = .returned (.tuple #[.slice (some ⟨g, 0, none⟩) (state5 bs).length c, .nilIface]) ∧ Own w' w.heap.size g c (state5 bs) ∧ Below w.heap.size w w' := by
  unfold state5
  have hmk := fun W => make_5 W
  have hhl := (hk_5).lt hst
  have HST := Lib.hid hst
  clear hst
  go_enter Tryz.func139, Tryz.ntmps139
  go_wp2_with fail
  obtain ⟨V, hV⟩ : ∃ V, w.alloc (.cells #[.int .u8 0, .int .u8 0, .int .u8 0, .int .u8 0, .int .u8 0, .int .u8 0, .int .u8 0, .int .u8 0, .int .u8 0, .int .u8 0, .int .u8 0, .int .u8 0, .int .u8 0, .int .u8 0, .int .u8 0, .int .u8 0, .int .u8 0, .int .u8 0, .int .u8 0, .int .u8 0] 5) = V := ⟨_, rfl⟩
  have sV : V.heap.size = w.heap.size + 1 := by subst hV; simp
  have bV : Below w.heap.size w V := by subst hV; exact (Below.refl _ _).alloc (Nat.le_refl _) _
  have oV : Own V w.heap.size w.heap.size 20 [] := by
    subst hV
    exact ⟨rfl, .inr ⟨w.heap.size, 20, _, rfl, Nat.le_refl _, heap_alloc_new w _, by simp, by simp [maxLen], rfl, rfl⟩⟩
  rw [hV]
  clear hV
  refine (appb_5 h bs w.heap.size w.heap.size 20 V (HST.out.keep (bV.block h hhl)) oV (by omega) hhl).mono ?_
  rintro e w' ⟨g', c', rfl, o1, b1⟩
  obtain ⟨m, hm⟩ : ∃ m, m = (magic5 ++ sum5 bs).length := ⟨_, rfl⟩
  rw [← hm]
  have bw := bV.trans b1
  have HMM := Lib.hid hm
  clear hm b1
  go_wp2_with fail
  go_ret2
  exact ⟨g', c', by rw [HMM.out]; rfl, o1, bw⟩

theorem mk_5 : MK Tryz.prog 85 139 St5 state5 := {
  ta := fun v w => by kernel_rfl
  nM := fun k a w => by kernel_rfl
  mM := fun k a w => by kernel_rfl
  eM := enters_of Tryz.func139 (by kernel_rfl) rfl
  mar := mar_5 }

end Go.Proofs.YtemojkjcnkbpoaaGreat

/-
  MarshalBinary of the hash of the kind 6: the magic and the sum. No condition.
-/
namespace Go.Proofs.YtemojkjcnkbpoaaGreat
open Go.RowKit Go.Shelf
set_option linter.unusedVariables false

def magic6 : List UInt8 := [97, 100, 108, 1]
def state6 (bs : List UInt8) : List UInt8 := magic6 ++ sum6 bs

set_option maxRecDepth 100000 in
set_option maxHeartbeats 1000000 in
theorem appb_6 (h : Nat) (bs : List UInt8) (base g c : Nat) (w : World) (hst : St6 w h bs) (ho : Own w base g c []) (hb : base ≤ w.heap.size) (hhb : h < base) :
    Calls Tryz.prog 153 #[.pointer (some ⟨h, 0, none⟩), .slice (some ⟨g, 0, none⟩) 0 c] w fun e w' => ∃ g' c', e = .returned (.tuple #[.slice (some ⟨g', 0, none⟩) (magic6 ++ sum6 bs).length c', .nilIface]) ∧ Own w' base g' c' (magic6 ++ sum6 bs) ∧ Below base w w' := by
  have hlt : Adl.b bs * 65536 + Adl.a bs < 4294967296 := by have := Adl.a_lt bs; have := Adl.b_lt bs; omega
  have hcell : w.cell? ⟨h, 0, none⟩ = some (.int .u32 ((Adl.b bs * 65536 + Adl.a bs : Nat) : Int)) := by rw [cell_of_row w h 0 _ _ _ hst]; rfl
  have hhl : h < w.heap.size := (Array.getElem?_eq_some_iff.1 hst).1
  unfold sum6
  generalize Adl.b bs * 65536 + Adl.a bs = D at *
  have hne : g ≠ h := by have := ho.lt'; omega
  have hgb := ho.lt'.1
  clear hst
  go_enter Tryz.func153, Tryz.ntmps153
  go_wp2_with (at_builtin; refine wpList_append_str_at rfl _ _ 22 9 rfl Tryz.underlying22 Tryz.underlying9 base g c [] 0 rfl rfl ho ⟨#[97, 100, 108, 1]⟩ rfl (by decide) hb ?_; intro g1 c1 w1 h1 h2 h3; refine Hid.out ?_)
  refine Lib.hid ?_
  have hc1 : w1.cell? ⟨h, 0, none⟩ = some (.int .u32 (D : Int)) := (World.cell?_of_block (a := ⟨h, 0, none⟩) (h2.block h hhl (fun e => hne (by injection e with e; exact e.symm)))).trans hcell
  have z1 := h2.size
  have bw1 : Below base w w1 := (Below.refl _ _).grown h2 hb (fun k hk => by injection hk with hk; omega)
  have e4 : ([] ++ (⟨#[97, 100, 108, 1]⟩ : ByteArray).data.toList : List UInt8) = magic6 := rfl
  rw [e4] at h1
  go_wp2_with fail
  refine (beAppend32_own base g1 c1 magic6 4 D w1 rfl h1 (by omega) (by decide) hlt).mono ?_
  rintro e w2 ⟨g2, c2, rfl, o2, b2⟩
  obtain ⟨m, hm⟩ : ∃ m, m = (magic6 ++ be32 D).length := ⟨_, rfl⟩
  rw [← hm]
  have HMM := Lib.hid hm
  clear hm
  go_wp2_with fail
  go_ret2
  exact ⟨g2, c2, by rw [HMM.out]; rfl, o2, bw1.trans b2⟩

theorem make_6 (W : World) : (Instr.makeSlice 22 (.int .i64 0) (.int .i64 8)).run Tryz.prog W = .ok (.slice (some ⟨W.heap.size, 0, none⟩) 0 8) (W.alloc (.cells #[.int .u8 0, .int .u8 0, .int .u8 0, .int .u8 0, .int .u8 0, .int .u8 0, .int .u8 0, .int .u8 0] 5)) := by kernel_rfl

set_option maxRecDepth 100000 in
set_option maxHeartbeats 1000000 in
theorem mar_6 (h : Nat) (bs : List UInt8) (w : World) (hst : St6 w h bs) :
    Calls Tryz.prog 147 #[.pointer (some ⟨h, 0, none⟩)] w fun e w' => ∃ g c, e = .returned (.tuple #[.slice (some ⟨g, 0, none⟩) (state6 bs).length c, .nilIface]) ∧ Own w' w.heap.size g c (state6 bs) ∧ Below w.heap.size w w' := by
  unfold state6
  have hmk := fun W => make_6 W
  have hhl := (hk_6).lt hst
  have HST := Lib.hid hst
  clear hst
  go_enter Tryz.func147, Tryz.ntmps147
  go_wp2_with fail
  obtain ⟨V, hV⟩ : ∃ V, w.alloc (.cells #[.int .u8 0, .int .u8 0, .int .u8 0, .int .u8 0, .int .u8 0, .int .u8 0, .int .u8 0, .int .u8 0] 5) = V := ⟨_, rfl⟩
  have sV : V.heap.size = w.heap.size + 1 := by subst hV; simp
  have bV : Below w.heap.size w V := by subst hV; exact (Below.refl _ _).alloc (Nat.le_refl _) _
  have oV : Own V w.heap.size w.heap.size 8 [] := by
    subst hV
    exact ⟨rfl, .inr ⟨w.heap.size, 8, _, rfl, Nat.le_refl _, heap_alloc_new w _, by simp, by simp [maxLen], rfl, rfl⟩⟩
  rw [hV]
  clear hV
  refine (appb_6 h bs w.heap.size w.heap.size 8 V (HST.out.keep (bV.block h hhl)) oV (by omega) hhl).mono ?_
  rintro e w' ⟨g', c', rfl, o1, b1⟩
  obtain ⟨m, hm⟩ : ∃ m, m = (magic6 ++ sum6 bs).length := ⟨_, rfl⟩
  rw [← hm]
  have bw := bV.trans b1
  have HMM := Lib.hid hm
  clear hm b1
  go_wp2_with fail
  go_ret2
  exact ⟨g', c', by rw [HMM.out]; rfl, o1, bw⟩

theorem mk_6 : MK Tryz.prog 86 147 St6 state6 := {
  ta := fun v w => by kernel_rfl
  nM := fun k a w => by kernel_rfl
  mM := fun k a w => by kernel_rfl
  eM := enters_of Tryz.func147 (by kernel_rfl) rfl
  mar := mar_6 }

end Go.Proofs.YtemojkjcnkbpoaaGreat


/-
  spec.Next does a step of FNV. No condition.
-/
import Derived.Test.YtaplmdbcjckbkaaGreatBefore
namespace Go.Proofs.YtaplmdbcjckbkaaGreat
open Go.RowKit
set_option linter.unusedVariables false

set_option maxRecDepth 100000 in
set_option maxHeartbeats 4000000 in
theorem next_any (k : Nat) (hk : k < 6) (s : Nat) (hs : s < Fnv.md k) (x : UInt8) (w : World) :
    Calls Tryz.prog 12 #[.int .i64 (k : Int), wv s, .int .u8 (x.toNat : Int)] w fun e w' => e = .returned (wv (Fnv.step k s x)) ∧ Below w.heap.size w w' := by
  have lM := Nat.le_of_dvd (by decide) (md_dvd hk)
  have pM := Fnv.md_pos k
  have hxl := x.toNat_lt
  have ls : s < 340282366920938463463374607431768211456 := Nat.lt_of_lt_of_le hs lM
  have lI : Fnv.prime k < 340282366920938463463374607431768211456 := by rcases kinds6 hk with rfl | rfl | rfl | rfl | rfl | rfl <;> simp [Fnv.prime]
  have ow : IntKind.u64.wrap (x.toNat : Int) = (x.toNat : Int) := by rw [IntKind.wrap_u64]; omega
  obtain ⟨u, v, lv, hw, hwx⟩ := wide_words s
  have hwx' := hwx x.toNat hxl
  rw [hw]
  have HW := Lib.hid hw
  obtain ⟨II, eII⟩ : ∃ P : Value, P = wv (Fnv.prime k) := ⟨_, rfl⟩
  clear hwx
  by_cases ho : k % 2 = 1
  · have t2 : (k : Int) % 2 = 1 := by omega
    have o1 := bits_xor_u64_nat v x.toNat lv (by omega)
    obtain ⟨r, er⟩ : ∃ r, r = v ^^^ x.toNat := ⟨_, rfl⟩
    rw [← er] at o1 hwx'
    obtain ⟨n0, n1, hn⟩ := wide_cells (Fnv.step k s x)
    have HR := Lib.hid hn
    have lsx : s ^^^ x.toNat < 340282366920938463463374607431768211456 := Nat.lt_of_lt_of_le (Fnv.xor_lt_md k s x hs) lM
    obtain ⟨V, hV⟩ : ∃ V, (w.alloc (.cells #[.int .u64 (u : Int), .int .u64 (r : Int)] 26)).alloc (.cells #[.int .u64 0, .int .u64 0] 26) = V := ⟨_, rfl⟩
    have sV : V.heap.size = w.heap.size + 2 := by subst hV; simp
    have v0 : V.heap[w.heap.size]? = some (.cells #[.int .u64 (u : Int), .int .u64 (r : Int)] 26 (0, 0)) := by subst hV; exact heap_alloc2_old w _ _
    have v1 : V.heap[w.heap.size + 1]? = some (.cells #[.int .u64 0, .int .u64 0] 26 (0, 0)) := by subst hV; exact heap_alloc2_new w _ _
    have bV : Below w.heap.size w V := by subst hV; exact ((Below.refl _ _).alloc (Nat.le_refl _) _).alloc (by simp) _
    have k0 : V.cell? ⟨w.heap.size, 0, none⟩ = some (.int .u64 (u : Int)) := by rw [cell_of_row V _ 0 _ _ _ v0]; rfl
    have k1 : V.cell? ⟨w.heap.size, 1, none⟩ = some (.int .u64 (r : Int)) := by rw [cell_of_row V _ 1 _ _ _ v0]; rfl
    have HC : Hid (Calls Tryz.prog 19 #[.int .i64 (k : Int)] V.drew fun e w' => e = .returned II ∧ Below V.heap.size V w' ∧ w'.cell? ⟨w.heap.size, 0, none⟩ = some (.int .u64 (u : Int)) ∧ w'.cell? ⟨w.heap.size, 1, none⟩ = some (.int .u64 (r : Int))) := by
      refine (prime_any k hk V.drew).mono ?_
      rintro e w' ⟨he, hb⟩
      have hb' : Below V.heap.size V w' := ((Below.refl _ V).drew).trans hb
      exact ⟨by rw [eII]; exact he, hb', (hb'.cell (show w.heap.size < _ by omega)).trans k0, (hb'.cell (show w.heap.size < _ by omega)).trans k1⟩
    have HT : Hid (∀ w', Below V.heap.size V w' → Calls Tryz.prog 16 #[.int .i64 (k : Int), .agg #[.int .u64 (u : Int), .int .u64 (r : Int)], II] w' fun e w'' => e = .returned (.agg #[.int .u64 n0, .int .u64 n1]) ∧ Below V.heap.size V w'' ∧ w''.cell? ⟨w.heap.size + 1, 0, none⟩ = some (.int .u64 0) ∧ w''.cell? ⟨w.heap.size + 1, 1, none⟩ = some (.int .u64 0) ∧ (∀ j, w''.frozen? ⟨w.heap.size + 1, j, none⟩ = false)) := fun w' hw' => by
      have h1 := times_any k hk (s ^^^ x.toNat) (Fnv.prime k) lsx lI w'
      rw [show (s ^^^ x.toNat) * Fnv.prime k % Fnv.md k = Fnv.step k s x by unfold Fnv.step; rw [if_pos ho], hn, ← eII, hwx'] at h1
      refine h1.mono ?_
      rintro e w'' ⟨he, hb⟩
      have hb' : Below V.heap.size V w'' := hw'.trans (hb.mono hw'.size)
      have hbl := (hb'.block (w.heap.size + 1) (by omega)).trans v1
      exact ⟨he, hb', by rw [cell_of_row w'' _ 0 _ _ _ hbl]; rfl, by rw [cell_of_row w'' _ 1 _ _ _ hbl]; rfl, fun j => frozen_of_row w'' _ j _ _ hbl⟩
    clear v1 v0 eII er hn hw hwx'
    go_enter Tryz.func12, Tryz.ntmps12
    go_wp2_with fail
    go_region_with (first | (go_at_call 19; refine HC.out.mono ?_; rintro e w' ⟨rfl, hbw, kc0, kc1⟩) | (go_at_call 16; refine (HT.out _ (by assumption)).mono ?_; rintro e w' ⟨rfl, hbw, kc0, kc1, kfz⟩))
    all_goals
      have gB : Below w.heap.size w w' := bV.trans (hbw.mono (by omega))
      go_wp2_with fail
      refine bodyPost_ret (v := .agg #[.int .u64 n0, .int .u64 n1]) (by simp [results, Tryz.results12, go_sem, kc0, kc1]) rfl ⟨by rw [HR.out], ?_⟩
      exact (gB.setCell (p := ⟨w.heap.size + 1, 0, none⟩) (by simp) _).setCell (p := ⟨w.heap.size + 1, 1, none⟩) (by simp) _
  · have t2 : (k : Int) % 2 = 0 := by omega
    obtain ⟨T, eT⟩ : ∃ T, T = s * Fnv.prime k % Fnv.md k := ⟨_, rfl⟩
    obtain ⟨u2, v2, lv2, hT, hTx⟩ := wide_words T
    have hTx' := hTx x.toNat hxl
    have hres : wv (Fnv.step k s x) = .agg #[.int .u64 (u2 : Int), .int .u64 ((v2 ^^^ x.toNat : Nat) : Int)] := by
      unfold Fnv.step
      rw [if_neg ho, ← eT]; exact hTx'
    have o1 := bits_xor_u64_nat v2 x.toNat lv2 (by omega)
    obtain ⟨r, er⟩ : ∃ r, r = v2 ^^^ x.toNat := ⟨_, rfl⟩
    rw [← er] at o1 hres
    have HR := Lib.hid hres
    obtain ⟨V, hV⟩ : ∃ V, (w.alloc (.cells #[.int .u64 (u : Int), .int .u64 (v : Int)] 26)).alloc (.cells #[.int .u64 0, .int .u64 0] 26) = V := ⟨_, rfl⟩
    have sV : V.heap.size = w.heap.size + 2 := by subst hV; simp
    have v0 : V.heap[w.heap.size]? = some (.cells #[.int .u64 (u : Int), .int .u64 (v : Int)] 26 (0, 0)) := by subst hV; exact heap_alloc2_old w _ _
    have v1 : V.heap[w.heap.size + 1]? = some (.cells #[.int .u64 0, .int .u64 0] 26 (0, 0)) := by subst hV; exact heap_alloc2_new w _ _
    have bV : Below w.heap.size w V := by subst hV; exact ((Below.refl _ _).alloc (Nat.le_refl _) _).alloc (by simp) _
    have k0 : V.cell? ⟨w.heap.size, 0, none⟩ = some (.int .u64 (u : Int)) := by rw [cell_of_row V _ 0 _ _ _ v0]; rfl
    have k1 : V.cell? ⟨w.heap.size, 1, none⟩ = some (.int .u64 (v : Int)) := by rw [cell_of_row V _ 1 _ _ _ v0]; rfl
    have HC : Hid (Calls Tryz.prog 19 #[.int .i64 (k : Int)] V.drew fun e w' => e = .returned II ∧ Below V.heap.size V w' ∧ w'.cell? ⟨w.heap.size, 0, none⟩ = some (.int .u64 (u : Int)) ∧ w'.cell? ⟨w.heap.size, 1, none⟩ = some (.int .u64 (v : Int))) := by
      refine (prime_any k hk V.drew).mono ?_
      rintro e w' ⟨he, hb⟩
      have hb' : Below V.heap.size V w' := ((Below.refl _ V).drew).trans hb
      exact ⟨by rw [eII]; exact he, hb', (hb'.cell (show w.heap.size < _ by omega)).trans k0, (hb'.cell (show w.heap.size < _ by omega)).trans k1⟩
    have HT : Hid (∀ w', Below V.heap.size V w' → Calls Tryz.prog 16 #[.int .i64 (k : Int), .agg #[.int .u64 (u : Int), .int .u64 (v : Int)], II] w' fun e w'' => e = .returned (.agg #[.int .u64 (u2 : Int), .int .u64 (v2 : Int)]) ∧ Below V.heap.size V w'' ∧ w''.heap[w.heap.size]? = some (.cells #[.int .u64 (u : Int), .int .u64 (v : Int)] 26 (0, 0)) ∧ w''.cell? ⟨w.heap.size, 0, none⟩ = some (.int .u64 (u : Int)) ∧ w''.cell? ⟨w.heap.size, 1, none⟩ = some (.int .u64 (v : Int)) ∧ (∀ j, w''.frozen? ⟨w.heap.size, j, none⟩ = false)) := fun w' hw' => by
      have h1 := times_any k hk s (Fnv.prime k) ls lI w'
      rw [← eT, hT, ← eII, HW.out] at h1
      refine h1.mono ?_
      rintro e w'' ⟨he, hb⟩
      have hb' : Below V.heap.size V w'' := hw'.trans (hb.mono hw'.size)
      have hbl := (hb'.block w.heap.size (by omega)).trans v0
      exact ⟨he, hb', hbl, (hb'.cell (show w.heap.size < _ by omega)).trans k0, (hb'.cell (show w.heap.size < _ by omega)).trans k1, fun j => frozen_of_row w'' _ j _ _ hbl⟩
    have V1 := Lib.hid v1
    clear v1 v0 eII eT er hres hT hTx hTx' hw hwx'
    go_enter Tryz.func12, Tryz.ntmps12
    go_wp2_with fail
    go_region_with (first | (go_at_call 19; refine HC.out.mono ?_; rintro e w' ⟨rfl, hbw, kc0, kc1⟩) | (go_at_call 16; refine (HT.out _ (by assumption)).mono ?_; rintro e w' ⟨rfl, hbw, hbl, kc0, kc1, kfz⟩))
    all_goals
      have sz' := hbw.size
      have gB : Below w.heap.size w w' := bV.trans (hbw.mono (by omega))
      have g1 : w'.heap[w.heap.size + 1]? = some (.cells #[.int .u64 0, .int .u64 0] 26 (0, 0)) := (hbw.block _ (by omega)).trans V1.out
      obtain ⟨X, hX⟩ : ∃ X, (w'.setCell ⟨w.heap.size, 0, none⟩ (.int .u64 (u2 : Int))).setCell ⟨w.heap.size, 1, none⟩ (.int .u64 (v2 : Int)) = X := ⟨_, rfl⟩
      have x0 : X.heap[w.heap.size]? = some (.cells #[.int .u64 (u2 : Int), .int .u64 (v2 : Int)] 26 (0, 0)) := by subst hX; rw [heap_setCell_same _ _ 1 _ _ _ (heap_setCell_same _ _ 0 _ _ _ hbl)]; rfl
      have x1 : X.heap[w.heap.size + 1]? = some (.cells #[.int .u64 0, .int .u64 0] 26 (0, 0)) := by subst hX; rw [heap_setCell_other _ _ _ _ (by simp), heap_setCell_other _ _ _ _ (by simp)]; exact g1
      have xB : Below w.heap.size w X := by subst hX; exact (gB.setCell (p := ⟨w.heap.size, 0, none⟩) (Nat.le_refl _) _).setCell (p := ⟨w.heap.size, 1, none⟩) (Nat.le_refl _) _
      have a0 : X.cell? ⟨w.heap.size, 0, none⟩ = some (.int .u64 (u2 : Int)) := by rw [cell_of_row X _ 0 _ _ _ x0]; rfl
      have a1 : X.cell? ⟨w.heap.size, 1, none⟩ = some (.int .u64 (v2 : Int)) := by rw [cell_of_row X _ 1 _ _ _ x0]; rfl
      have b0 : X.cell? ⟨w.heap.size + 1, 0, none⟩ = some (.int .u64 0) := by rw [cell_of_row X _ 0 _ _ _ x1]; rfl
      have b1 : X.cell? ⟨w.heap.size + 1, 1, none⟩ = some (.int .u64 0) := by rw [cell_of_row X _ 1 _ _ _ x1]; rfl
      have fa : ∀ j, X.frozen? ⟨w.heap.size, j, none⟩ = false := fun j => frozen_of_row X _ j _ _ x0
      have fb : ∀ j, X.frozen? ⟨w.heap.size + 1, j, none⟩ = false := fun j => frozen_of_row X _ j _ _ x1
      rw [hX]
      clear hX x0 x1 gB g1 hbl kc0 kc1 kfz hbw sz'
      go_wp2_with fail
      refine bodyPost_ret (v := .agg #[.int .u64 (u2 : Int), .int .u64 (r : Int)]) (by simp [results, Tryz.results12, go_sem, b0, b1]) rfl ⟨by rw [HR.out], ?_⟩
      exact ((xB.setCell (p := ⟨w.heap.size, 1, none⟩) (Nat.le_refl _) _).setCell (p := ⟨w.heap.size + 1, 0, none⟩) (by simp) _).setCell (p := ⟨w.heap.size + 1, 1, none⟩) (by simp) _

end Go.Proofs.YtaplmdbcjckbkaaGreat

/-
  impl.Decode and laws.whole where a fault is found: its place. Condition: errors.errorType holds what its initialiser lays; the lengths' bounds.
-/
import Derived.Test.YtmddbfcghddacaaDoorErrAs
namespace Go.Proofs.YtmddbfcghddacaaDoor
open Go.RowKit
set_option linter.unusedVariables false

theorem below_as (w : World) (t : Addr) (i : Int) (B : Nat) (hB : B ≤ w.heap.size) (ht : B ≤ t.block) : Below B w (asWorld w t i) := by
  unfold asWorld
  refine Below.setCell ?_ ht _
  exact ((((Below.refl _ _).alloc hB _).alloc (by simp; omega) _).alloc (by simp; omega) _).alloc (by simp; omega) _

set_option maxRecDepth 100000 in
set_option maxHeartbeats 2000000 in
theorem impl_decode_bad (A : Option Addr) (n c : Nat) (bs : List UInt8) (fl : Bool) (w : World) (hn : n = bs.length) (h : Rd w w.heap.size A bs) (hl : n ≤ 10000000)
    (hlaid : w.cell? ⟨0, 0, none⟩ = some (.iface 61 (.agg #[.pointer (some ⟨1, 39, none⟩)]))) (hlt0 : 0 < w.heap.size)
    (bad : Nat) (hdec : Asc.dec (4 * n + 8) fl bs.length bs 0 0 0 0 [] = ([], 0, some bad)) (hbad : bad ≤ 10000000) :
    Calls Tryd.prog 13 #[.slice A n c, .bool fl, .int .i64 (4 * (n : Int) + 8)] w fun e w' => ∃ g R, e = .returned (.agg #[.slice (some ⟨g, 0, none⟩) 0 R, .int .i64 0, .int .i64 (bad : Int)]) ∧ Below w.heap.size w w' := by
  obtain ⟨R, hR⟩ : ∃ R, R = 4 * n + 8 := ⟨_, rfl⟩
  rw [← hR] at hdec
  have e4 : 4 * (n : Int) + 8 = (R : Int) := by omega
  have hmk := run_make_row' (P := Tryd.prog) 22 5 (.int .u8 0) 1 Tryd.underlying22 info5 rfl .i64 .i64 R (by omega) (by omega)
  have lR : R ≤ 40000008 := by omega
  have HN := Lib.hid hn
  have HDEC := Lib.hid hdec
  rw [e4]
  clear hn hdec hR
  go_enter Tryd.func13, Tryd.ntmps13
  go_wp2_with fail
  obtain ⟨W, hW⟩ : ∃ W, (w.alloc (.cells #[.slice none 0 0, .int .i64 0, .int .i64 0] 26)).alloc (.cells (madeCells #[Value.int .u8 0] R) 5) = W := ⟨_, rfl⟩
  have bW : Below w.heap.size w W := by subst hW; exact ((Below.refl _ _).alloc (Nat.le_refl _) _).alloc (by simp) _
  have sW : W.heap.size = w.heap.size + 2 := by subst hW; simp
  have e0 : W.heap[w.heap.size]? = some (.cells #[.slice none 0 0, .int .i64 0, .int .i64 0] 26 (0, 0)) := by subst hW; exact heap_alloc2_old w _ _
  have e1 : W.heap[w.heap.size + 1]? = some (.cells (madeCells #[Value.int .u8 0] R) 5 (0, 0)) := by subst hW; exact heap_alloc2_new w _ _
  have E0 := Lib.hid e0
  have E1 := Lib.hid e1
  rw [hW]
  clear hmk e0 e1 hW
  refine (own_any A n c bs W HN.out ((h.below bW).mono (by omega)) (by have := HN.out; omega)).mono ?_
  rintro e w2 ⟨g1, d1, rfl, ho, hb2⟩
  have z2 := hb2.size
  have hg1 := ho.lt'
  have hblk : w2.heap[w.heap.size + 1]? = some (.cells (madeCells #[Value.int .u8 0] R) 5 (0, 0)) := (hb2.block _ (by omega)).trans E1.out
  have bw2 : Below w.heap.size w w2 := bW.trans (hb2.mono (by omega))
  have hrd := ho.rd
  have hsrc : ∀ i x, bs[i]? = some x → w2.cell? ⟨g1, 0 + i, none⟩ = some (.int .u8 (x.toNat : Int)) := by
    intro i x hx
    rcases hrd with e | ⟨b, off, e, _, hc⟩
    · subst e; simp at hx
    · injection e with e; injection e with e1 e2; subst e1; subst e2
      exact hc i x hx
  obtain ⟨m, em⟩ : ∃ m, m = bs.length := ⟨_, rfl⟩
  rw [← em]
  have HEM := Lib.hid em
  clear em
  go_wp2_with fail
  refine (decode_any (w.heap.size + 1) R g1 0 m d1 bs fl (madeCells #[Value.int .u8 0] R) 5 w2 hblk (fun i hi => made_u8 R i hi) (by omega) HEM.out (by have := HEM.out; have := HN.out; omega) (by omega) hsrc).mono ?_
  rintro e w3 ⟨out', used', bad', hd', hu', ho', rfl, cr, rfl, hupd, hcr⟩
  obtain ⟨rfl, rfl, rfl⟩ : out' = [] ∧ used' = 0 ∧ bad' = some bad := by
    have := hd'.symm.trans HDEC.out
    simpa using this
  have z3 : (w2.setRow (w.heap.size + 1) cr).heap.size = w2.heap.size := by simp
  have bw3 : Below w.heap.size w (w2.setRow (w.heap.size + 1) cr) := Below.setRow' bw2 (by omega) _
  have k0 : (w2.setRow (w.heap.size + 1) cr).heap[w.heap.size]? = some (.cells #[.slice none 0 0, .int .i64 0, .int .i64 0] 26 (0, 0)) := by
    rw [heap_setRow_other _ _ _ _ (by omega), hb2.block _ (by omega)]; exact E0.out
  obtain ⟨V0, hV0⟩ : ∃ W, w2.setRow (w.heap.size + 1) cr = W := ⟨_, rfl⟩
  rw [hV0] at z3 bw3 k0 ⊢
  rw [show errV 42 (some bad) = Value.iface 42 (.int .i64 (bad : Int)) from rfl, show (([] : List UInt8).length) = 0 from rfl, show ((0 : Nat) : Int) = 0 from rfl]
  have z3a : V0.heap.size ≤ w2.heap.size := by omega
  have z3b : w2.heap.size ≤ V0.heap.size := by omega
  have K0 := Lib.hid k0
  have gl : V0.cell? ⟨0, 0, none⟩ = some (.iface 61 (.agg #[.pointer (some ⟨1, 39, none⟩)])) := (bw3.cell (p := ⟨0, 0, none⟩) hlt0).trans hlaid
  clear z3 hV0 hd' hcr hupd hblk hsrc hrd ho hb2 bW bw2 E0 E1 HDEC k0 hu' ho'
  go_wp2_with fail
  obtain ⟨V, hV⟩ : ∃ V, (V0.alloc (.cells #[.slice (some ⟨w.heap.size + 1, 0, none⟩) 0 R, .int .i64 0, .int .i64 (-1)] 26)).alloc (.cells #[.int .i64 0] 42) = V := ⟨_, rfl⟩
  have sV : V.heap.size = V0.heap.size + 2 := by subst hV; simp
  have v0 : V.heap[V0.heap.size]? = some (.cells #[.slice (some ⟨w.heap.size + 1, 0, none⟩) 0 R, .int .i64 0, .int .i64 (-1)] 26 (0, 0)) := by subst hV; exact heap_alloc2_old V0 _ _
  have v1 : V.heap[V0.heap.size + 1]? = some (.cells #[.int .i64 0] 42 (0, 0)) := by subst hV; exact heap_alloc2_new V0 _ _
  have bV : Below V0.heap.size V0 V := by subst hV; exact ((Below.refl _ _).alloc (Nat.le_refl _) _).alloc (by simp) _
  have y0 : V.heap[w.heap.size]? = some (.cells #[.slice none 0 0, .int .i64 0, .int .i64 0] 26 (0, 0)) := (bV.block _ (by omega)).trans K0.out
  have bwV : Below w.heap.size w V := bw3.trans (bV.mono (by omega))
  have glV : V.cell? ⟨0, 0, none⟩ = some (.iface 61 (.agg #[.pointer (some ⟨1, 39, none⟩)])) := (bV.cell (p := ⟨0, 0, none⟩) (by simp; omega)).trans gl
  have ctgt : V.cell? ⟨V0.heap.size + 1, 0, none⟩ = some (.int .i64 0) := by rw [cell_of_row V _ 0 _ _ _ v1]; rfl
  have ftgt : V.frozen? ⟨V0.heap.size + 1, 0, none⟩ = false := frozen_of_row V _ 0 _ _ v1
  rw [hV]
  clear hV
  refine (as_hit (bad : Int) ⟨V0.heap.size + 1, 0, none⟩ (.int .i64 0) V glV ctgt ftgt).mono ?_
  rintro e w' ⟨rfl, rfl⟩
  obtain ⟨Z, hZ⟩ : ∃ Z, asWorld V ⟨V0.heap.size + 1, 0, none⟩ (bad : Int) = Z := ⟨_, rfl⟩
  have bZ : Below (V0.heap.size + 1) V Z := by subst hZ; exact below_as V _ _ _ (by omega) (Nat.le_refl _)
  have cZ : Z.cell? ⟨V0.heap.size + 1, 0, none⟩ = some (.int .i64 (bad : Int)) := by
    subst hZ
    unfold asWorld
    refine World.cell?_setCell_same' _ _ _ ?_
    rw [World.cell?_alloc_lt _ _ _ (by simp; omega), World.cell?_alloc_lt _ _ _ (by simp; omega), World.cell?_alloc_lt _ _ _ (by simp; omega), World.cell?_alloc_lt _ _ _ (by simp; omega), ctgt]
    rfl
  have y1 : Z.heap[w.heap.size]? = some (.cells #[.slice none 0 0, .int .i64 0, .int .i64 0] 26 (0, 0)) := (bZ.block _ (by omega)).trans y0
  have x0 : Z.heap[V0.heap.size]? = some (.cells #[.slice (some ⟨w.heap.size + 1, 0, none⟩) 0 R, .int .i64 0, .int .i64 (-1)] 26 (0, 0)) := (bZ.block _ (by omega)).trans v0
  have a0 : Z.cell? ⟨V0.heap.size, 0, none⟩ = some (.slice (some ⟨w.heap.size + 1, 0, none⟩) 0 R) := by rw [cell_of_row Z _ 0 _ _ _ x0]; rfl
  have a1 : Z.cell? ⟨V0.heap.size, 1, none⟩ = some (.int .i64 0) := by rw [cell_of_row Z _ 1 _ _ _ x0]; rfl
  have a2 : Z.cell? ⟨V0.heap.size, 2, none⟩ = some (.int .i64 (-1)) := by rw [cell_of_row Z _ 2 _ _ _ x0]; rfl
  have fa : ∀ j, Z.frozen? ⟨V0.heap.size, j, none⟩ = false := fun j => frozen_of_row Z _ j _ _ x0
  have b0 : Z.cell? ⟨w.heap.size, 0, none⟩ = some (.slice none 0 0) := by rw [cell_of_row Z _ 0 _ _ _ y1]; rfl
  have b1 : Z.cell? ⟨w.heap.size, 1, none⟩ = some (.int .i64 0) := by rw [cell_of_row Z _ 1 _ _ _ y1]; rfl
  have b2 : Z.cell? ⟨w.heap.size, 2, none⟩ = some (.int .i64 0) := by rw [cell_of_row Z _ 2 _ _ _ y1]; rfl
  have f0 : ∀ j, Z.frozen? ⟨w.heap.size, j, none⟩ = false := fun j => frozen_of_row Z _ j _ _ y1
  have bwZ : Below w.heap.size w Z := bwV.trans (bZ.mono (by omega))
  have zw : w.heap.size ≤ V0.heap.size := bw3.size
  have hne : ¬ (w.heap.size = V0.heap.size) := by omega
  have hne' : ¬ (V0.heap.size = w.heap.size) := by omega
  rw [hZ]
  clear hZ v0 v1 bV bZ y0 y1 x0 glV gl ctgt ftgt sV sW
  go_wp2_with fail
  refine bodyPost_ret (v := .agg #[.slice (some ⟨w.heap.size + 1, 0, none⟩) 0 R, .int .i64 0, .int .i64 (bad : Int)]) (by simp [results, Tryd.results13, go_sem, b0, b1, b2]) rfl ⟨w.heap.size + 1, R, rfl, ?_⟩
  exact (((bwZ.setCell (p := ⟨V0.heap.size, 2, none⟩) (by simp; omega) _).setCell (p := ⟨w.heap.size, 0, none⟩) (Nat.le_refl _) _).setCell (p := ⟨w.heap.size, 1, none⟩) (Nat.le_refl _) _).setCell (p := ⟨w.heap.size, 2, none⟩) (Nat.le_refl _) _

set_option maxRecDepth 100000 in
set_option maxHeartbeats 1000000 in
theorem whole_bad (A : Option Addr) (n c : Nat) (bs : List UInt8) (fl : Bool) (w : World) (hn : n = bs.length) (h : Rd w w.heap.size A bs) (hl : n ≤ 10000000)
    (hlaid : w.cell? ⟨0, 0, none⟩ = some (.iface 61 (.agg #[.pointer (some ⟨1, 39, none⟩)]))) (hlt0 : 0 < w.heap.size)
    (bad : Nat) (hdec : Asc.dec (4 * n + 8) fl bs.length bs 0 0 0 0 [] = ([], 0, some bad)) (hbad : bad ≤ 10000000) :
    Calls Tryd.prog 10 #[.slice A n c, .bool fl] w fun e w' => ∃ g R, e = .returned (.agg #[.slice (some ⟨g, 0, none⟩) 0 R, .int .i64 0, .int .i64 (bad : Int)]) ∧ Below w.heap.size w w' := by
  have HN := Lib.hid hn
  have HDEC := Lib.hid hdec
  clear hn hdec
  go_enter Tryd.func10, Tryd.ntmps10
  go_wp2_with fail
  obtain ⟨W, hW⟩ : ∃ W, w.alloc (.cells #[.slice none 0 0, .int .i64 0, .int .i64 0] 26) = W := ⟨_, rfl⟩
  have sW : W.heap.size = w.heap.size + 1 := by subst hW; simp
  have bW : Below w.heap.size w W := by subst hW; exact (Below.refl _ _).alloc (Nat.le_refl _) _
  have e0 : W.heap[w.heap.size]? = some (.cells #[.slice none 0 0, .int .i64 0, .int .i64 0] 26 (0, 0)) := by subst hW; exact heap_alloc_new w _
  rw [hW]
  clear hW
  refine (impl_decode_bad A n c bs fl W HN.out ((h.below bW).mono (by omega)) (by omega) ((bW.cell (p := ⟨0, 0, none⟩) hlt0).trans hlaid) (by omega) bad HDEC.out hbad).mono ?_
  rintro e w1 ⟨g, R, rfl, hb⟩
  have z1 := hb.size
  have y0 : w1.heap[w.heap.size]? = some (.cells #[.slice none 0 0, .int .i64 0, .int .i64 0] 26 (0, 0)) := (hb.block _ (by omega)).trans e0
  have b0 : w1.cell? ⟨w.heap.size, 0, none⟩ = some (.slice none 0 0) := by rw [cell_of_row w1 _ 0 _ _ _ y0]; rfl
  have b1 : w1.cell? ⟨w.heap.size, 1, none⟩ = some (.int .i64 0) := by rw [cell_of_row w1 _ 1 _ _ _ y0]; rfl
  have b2 : w1.cell? ⟨w.heap.size, 2, none⟩ = some (.int .i64 0) := by rw [cell_of_row w1 _ 2 _ _ _ y0]; rfl
  have f0 : ∀ j, w1.frozen? ⟨w.heap.size, j, none⟩ = false := fun j => frozen_of_row w1 _ j _ _ y0
  have bw : Below w.heap.size w w1 := bW.trans (hb.mono (by omega))
  clear y0 e0 hb
  go_wp2_with fail
  refine bodyPost_ret (v := .agg #[.slice (some ⟨g, 0, none⟩) 0 R, .int .i64 0, .int .i64 (bad : Int)]) (by simp [results, Tryd.results10, go_sem, b0, b1, b2]) rfl ⟨g, R, rfl, ?_⟩
  exact ((bw.setCell (p := ⟨w.heap.size, 0, none⟩) (Nat.le_refl _) _).setCell (p := ⟨w.heap.size, 1, none⟩) (Nat.le_refl _) _).setCell (p := ⟨w.heap.size, 2, none⟩) (Nat.le_refl _) _

end Go.Proofs.YtmddbfcghddacaaDoor

/-
  impl.Decode and laws.whole, where no fault is found: what was decoded in a new row, what was used, and -1. Condition: the lengths' bounds.
-/
import Derived.Test.YtemojkjcnkbpoaaGreatDoorDec
import Derived.Outline
import Derived.Test.YtemojkjcnkbpoaaGreatDoorOwn
import Derived.Test.YtemojkjcnkbpoaaGreatDoorImp
namespace Go.Proofs.YtemojkjcnkbpoaaGreatDoor
open Go.RowKit
set_option linter.unusedVariables false

/-- errors.As(nil, target) -/
theorem as_nil (t : Value) (w : World) :
    Calls Tryz.prog 16 #[.nilIface, t] w fun e w' => e = .returned (.bool false) ∧ w' = w := by
  go_enter Tryz.func16, Tryz.ntmps16
  go_wp2
  go_ret
  exact ⟨rfl, rfl⟩

/-- how much room there is -/
def roomN (room : Int) (n : Nat) : Nat := if room ≤ 0 then 0 else if room ≤ 4 * (n : Int) + 8 then room.toNat else 4 * n + 8

set_option maxRecDepth 100000 in
set_option maxHeartbeats 2000000 in
theorem impl_decode (A : Option Addr) (n c : Nat) (bs : List UInt8) (fl : Bool) (room : Int) (w : World) (hn : n = bs.length) (h : Rd w w.heap.size A bs) (hl : n ≤ 200000000000000) (lR0 : roomN room n ≤ 70368744177672) (hro : -9223372036854775808 ≤ room ∧ room ≤ 9223372036854775807)
    (out : List UInt8) (used : Nat) (hdec : Asc.dec (roomN room n) fl bs.length bs 0 0 0 0 [] = (out, used, none)) :
    Calls Tryz.prog 8 #[.slice A n c, .bool fl, .int .i64 room] w fun e w' => ∃ g, e = .returned (.agg #[.slice (some ⟨g, 0, none⟩) out.length (roomN room n), .int .i64 (used : Int), .int .i64 (-1)]) ∧ used ≤ n ∧ out.length ≤ roomN room n ∧ w.heap.size ≤ g ∧ Rd w' w'.heap.size (some ⟨g, 0, none⟩) out ∧ Below w.heap.size w w' := by
  obtain ⟨R, hR⟩ : ∃ R, R = roomN room n := ⟨_, rfl⟩
  rw [← hR] at hdec ⊢
  have lR : R ≤ 70368744177672 := by rw [hR]; exact lR0
  have hmk := run_make_row' (P := Tryz.prog) 22 5 (.int .u8 0) 1 Tryz.underlying22 info5 rfl .i64 .i64 R (by omega) (by omega)
  have HN := Lib.hid hn
  have HDEC := Lib.hid hdec
  have HR := Lib.hid hR
  clear hn hdec hR lR0
  go_enter Tryz.func8, Tryz.ntmps8
  go_upto_region 1 with (fail)
  go_cut [7] (fun x wc => x = .slice (some ⟨w.heap.size + 1, 0, none⟩) R R ∧ wc = (w.alloc (.cells #[.slice none 0 0, .int .i64 0, .int .i64 0] 30)).alloc (.cells (madeCells #[Value.int .u8 0] R) 5))
  case first =>
    have e := HR.out
    unfold roomN at e
    by_cases h0 : room < 0
    · rw [if_pos (by omega)] at e
      subst e
      rw [show ((0 : Nat) : Int) = 0 from rfl] at hmk
      go_wp2_with fail
      go_meet
      exact ⟨rfl, rfl⟩
    · by_cases h1 : room ≤ 4 * (n : Int) + 8
      · obtain ⟨r, rfl⟩ : ∃ r : Nat, room = (r : Int) := ⟨room.toNat, by omega⟩
        have e' : R = r := by
          split at e
          · omega
          · first | omega | (rw [if_pos h1] at e; omega)
        subst e'
        clear e
        go_wp2_with fail
        go_meet
        exact ⟨rfl, rfl⟩
      · rw [if_neg (by omega), if_neg h1] at e
        have e4 : 4 * (n : Int) + 8 = (R : Int) := by omega
        clear e
        go_wp2_with fail
        go_meet
        exact ⟨rfl, rfl⟩
  case rest =>
    obtain ⟨rfl, hwc⟩ := hcut
    have bW : Below w.heap.size w wc := by subst hwc; exact ((Below.refl _ _).alloc (Nat.le_refl _) _).alloc (by simp) _
    have sW : wc.heap.size = w.heap.size + 2 := by subst hwc; simp
    have e0 : wc.heap[w.heap.size]? = some (.cells #[.slice none 0 0, .int .i64 0, .int .i64 0] 30 (0, 0)) := by subst hwc; exact heap_alloc2_old w _ _
    have e1 : wc.heap[w.heap.size + 1]? = some (.cells (madeCells #[Value.int .u8 0] R) 5 (0, 0)) := by subst hwc; exact heap_alloc2_new w _ _
    have E0 := Lib.hid e0
    have E1 := Lib.hid e1
    clear hwc hmk e0 e1
    go_wp2_with fail
    refine (own_any A n c bs wc HN.out ((h.below bW).mono (by omega)) (by have := HN.out; omega)).mono ?_
    rintro e w2 ⟨g1, d1, rfl, ho, hb2⟩
    have z2 := hb2.size
    have hg1 := ho.lt'
    have hblk : w2.heap[w.heap.size + 1]? = some (.cells (madeCells #[Value.int .u8 0] R) 5 (0, 0)) := (hb2.block _ (by omega)).trans E1.out
    have bw2 : Below w.heap.size w w2 := bW.trans (hb2.mono (by omega))
    have hrd := ho.rd
    have hsrc : ∀ i x, bs[i]? = some x → w2.cell? ⟨g1, 0 + i, none⟩ = some (.int .u8 (x.toNat : Int)) := by
      intro i x hx
      rcases hrd with e | ⟨b, off, e, _, hc⟩
      · subst e; simp at hx
      · injection e with e; injection e with e1 e2; subst e1; subst e2
        exact hc i x hx
    obtain ⟨m, em⟩ : ∃ m, m = bs.length := ⟨_, rfl⟩
    rw [← em]
    have HEM := Lib.hid em
    clear em
    go_wp2_with fail
    refine (decode_any (w.heap.size + 1) R g1 0 m d1 bs fl (madeCells #[Value.int .u8 0] R) 5 w2 hblk (fun i hi => made_u8 R i hi) (by omega) HEM.out (by have := HEM.out; have := HN.out; omega) (by omega) hsrc).mono ?_
    rintro e w3 ⟨out', used', bad', hd', hu', ho', rfl, cr, rfl, hupd, hcr⟩
    obtain ⟨rfl, rfl, rfl⟩ : out' = out ∧ used' = used ∧ bad' = none := by
      have := hd'.symm.trans HDEC.out
      simpa using this
    have z3 : (w2.setRow (w.heap.size + 1) cr).heap.size = w2.heap.size := by simp
    have bw3 : Below w.heap.size w (w2.setRow (w.heap.size + 1) cr) := Below.setRow' bw2 (by omega) _
    have k0 : (w2.setRow (w.heap.size + 1) cr).heap[w.heap.size]? = some (.cells #[.slice none 0 0, .int .i64 0, .int .i64 0] 30 (0, 0)) := by
      rw [heap_setRow_other _ _ _ _ (by omega), hb2.block _ (by omega)]; exact E0.out
    have kr : Rd (w2.setRow (w.heap.size + 1) cr) w2.heap.size (some ⟨w.heap.size + 1, 0, none⟩) out' := by
      refine .inr ⟨w.heap.size + 1, 0, rfl, by omega, fun i x hx => ?_⟩
      rw [cell_setRow w2 _ _ _ cr _ _ hblk, Nat.zero_add]
      exact hcr i x hx
    obtain ⟨W, hW⟩ : ∃ W, w2.setRow (w.heap.size + 1) cr = W := ⟨_, rfl⟩
    rw [hW] at z3 bw3 k0 kr ⊢
    rw [show errV 42 none = Value.nilIface from rfl]
    have z3a : W.heap.size ≤ w2.heap.size := by omega
    have z3b : w2.heap.size ≤ W.heap.size := by omega
    clear z3
    obtain ⟨lo, elo⟩ : ∃ lo, lo = out'.length := ⟨_, rfl⟩
    rw [← elo] at ho' ⊢
    have HU := Lib.hid hu'
    have lu : used' ≤ m := by rw [HEM.out]; exact hu'
    have K0 := Lib.hid k0
    have ELO := Lib.hid elo
    have t1 : (lo : Int) ≤ (R : Int) := by omega
    clear hW hd' hcr hupd hblk hsrc hrd ho hb2 bW bw2 E0 E1 HDEC k0 elo hu'
    go_wp2_with fail
    refine (as_nil _ _).mono ?_
    rintro e w' ⟨rfl, rfl⟩
    obtain ⟨V, hV⟩ : ∃ V, (W.alloc (.cells #[.slice (some ⟨w.heap.size + 1, 0, none⟩) lo R, .int .i64 (used' : Int), .int .i64 (-1)] 30)).alloc (.cells #[.int .i64 0] 42) = V := ⟨_, rfl⟩
    have sV : V.heap.size = W.heap.size + 2 := by subst hV; simp
    have v0 : V.heap[W.heap.size]? = some (.cells #[.slice (some ⟨w.heap.size + 1, 0, none⟩) lo R, .int .i64 (used' : Int), .int .i64 (-1)] 30 (0, 0)) := by subst hV; exact heap_alloc2_old W _ _
    have bV : Below W.heap.size W V := by subst hV; exact ((Below.refl _ _).alloc (Nat.le_refl _) _).alloc (by simp) _
    have y0 : V.heap[w.heap.size]? = some (.cells #[.slice none 0 0, .int .i64 0, .int .i64 0] 30 (0, 0)) := (bV.block _ (by omega)).trans K0.out
    have a0 : V.cell? ⟨W.heap.size, 0, none⟩ = some (.slice (some ⟨w.heap.size + 1, 0, none⟩) lo R) := by rw [cell_of_row V _ 0 _ _ _ v0]; rfl
    have a1 : V.cell? ⟨W.heap.size, 1, none⟩ = some (.int .i64 (used' : Int)) := by rw [cell_of_row V _ 1 _ _ _ v0]; rfl
    have a2 : V.cell? ⟨W.heap.size, 2, none⟩ = some (.int .i64 (-1)) := by rw [cell_of_row V _ 2 _ _ _ v0]; rfl
    have b0 : V.cell? ⟨w.heap.size, 0, none⟩ = some (.slice none 0 0) := by rw [cell_of_row V _ 0 _ _ _ y0]; rfl
    have b1 : V.cell? ⟨w.heap.size, 1, none⟩ = some (.int .i64 0) := by rw [cell_of_row V _ 1 _ _ _ y0]; rfl
    have b2 : V.cell? ⟨w.heap.size, 2, none⟩ = some (.int .i64 0) := by rw [cell_of_row V _ 2 _ _ _ y0]; rfl
    have f0 : ∀ j, V.frozen? ⟨w.heap.size, j, none⟩ = false := fun j => frozen_of_row V _ j _ _ y0
    have kV : Rd V V.heap.size (some ⟨w.heap.size + 1, 0, none⟩) out' := ((kr.mono (by omega)).below bV).mono (by omega)
    have bwV : Below w.heap.size w V := bw3.trans (bV.mono (by omega))
    rw [hV]
    clear hV v0 bV y0
    go_wp2_with fail
    refine bodyPost_ret (v := .agg #[.slice (some ⟨w.heap.size + 1, 0, none⟩) lo R, .int .i64 (used' : Int), .int .i64 (-1)]) (by simp [results, Tryz.results8, go_sem, b0, b1, b2]) rfl ⟨w.heap.size + 1, by rw [← ELO.out], by have := HN.out; have := HEM.out; omega, by rw [← ELO.out]; exact ho', by omega, ?_, ?_⟩
    · rcases kV with e | ⟨b, off, e, hb, hc⟩
      · exact .inl e
      · injection e with e
        injection e with e1 e2
        subst e1 e2
        refine .inr ⟨w.heap.size + 1, 0, rfl, by simp; omega, fun i x hx => ?_⟩
        rw [World.cell?_setCell_other _ _ _ _ (by simp), World.cell?_setCell_other _ _ _ _ (by simp), World.cell?_setCell_other _ _ _ _ (by simp)]
        exact hc i x hx
    · exact ((bwV.setCell (p := ⟨w.heap.size, 0, none⟩) (Nat.le_refl _) _).setCell (p := ⟨w.heap.size, 1, none⟩) (Nat.le_refl _) _).setCell (p := ⟨w.heap.size, 2, none⟩) (Nat.le_refl _) _

end Go.Proofs.YtemojkjcnkbpoaaGreatDoor

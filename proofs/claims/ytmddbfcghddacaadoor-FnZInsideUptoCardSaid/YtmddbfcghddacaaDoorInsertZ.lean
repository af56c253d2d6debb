/-
  FnInsertZ: a z behind the k-th group of a text stands for four bytes 0 behind the k-th group of the data. Condition: the lengths' bounds.
-/
import Derived.Test.YtmddbfcghddacaaDoorPlainZeros
import Derived.Test.YtmddbfcghddacaaDoorJoin3
import Derived.Deep.RegionWith
import Derived.IntWalk
import Derived.Deep.DeepCutAuto
namespace Go.Proofs.YtmddbfcghddacaaDoor
open Go.RowKit
set_option linter.unusedVariables false

theorem Kp.al {B : Nat} {w w1 : World} (h : Kp B w w1) (o : Obj) : Kp B w (w1.alloc o) := ⟨h.bel.alloc h.le _, Nat.le_trans h.le (by simp)⟩
theorem Kp.dr {B : Nat} {w w1 : World} (h : Kp B w w1) (n : Nat) : Kp B w (w1.drewN n) := ⟨⟨h.bel.os, h.bel.tape, h.bel.output, h.bel.size, h.bel.block⟩, h.le⟩
theorem make4 (W : World) : (Instr.makeSlice 22 (.int .i64 4) (.int .i64 4)).run Tryd.prog W = .ok (.slice (some ⟨W.heap.size, 0, none⟩) 4 4) (W.alloc (.cells #[.int .u8 0, .int .u8 0, .int .u8 0, .int .u8 0] 5)) := by kernel_rfl
theorem bl_ad (w : World) (o : Obj) : Below w.heap.size w (w.alloc o).drew := ((Below.refl _ _).alloc (Nat.le_refl _) _).drew
/-- 'data[:k]' and 'data[k:]' as one equation each, whatever the capacity -/
theorem slice_hi (A : Option Addr) (n c k : Nat) (hk : k ≤ c) (W : World) : (Instr.sliceAt 22 (.slice A n c) none (some (.int .i64 (k : Int))) none).run Tryd.prog W = .ok (.slice A k c) W := by
  have e : (Instr.sliceAt 22 (.slice A n c) none (some (.int .i64 (k : Int))) none).run Tryd.prog W = (Instr.slice 22 (.slice A n c) none (some (.int .i64 (k : Int))) none).run Tryd.prog W := by
    simp [Instr.sliceAt, run_underlying Tryd.underlying22]
  have hsz : ∀ W, (sizeOf 5).run Tryd.prog W = .ok 1 W := fun _ => by kernel_rfl
  rw [e]
  have hmap : A.map (fun x : Addr => x.add 0) = A := by cases A <;> simp [Addr.add]
  simp [Instr.slice, run_underlying Tryd.underlying22, Instr.sliceBounds, Instr.sliceBound, hsz, hk, hmap, asIntOf, Result.andThen]
theorem slice_lo (A : Option Addr) (n c k : Nat) (hk : k ≤ n) (hn : n ≤ c) : ∃ A2 : Option Addr, (∀ b off, A = some ⟨b, off, none⟩ → k < n → A2 = some ⟨b, off + k, none⟩) ∧ ∀ W : World, (Instr.sliceAt 22 (.slice A n c) (some (.int .i64 (k : Int))) none none).run Tryd.prog W = .ok (.slice A2 (n - k) (c - k)) W := by
  refine ⟨if c = k then A else A.map (·.add k), fun b off e h => ?_, fun W => ?_⟩
  · rw [if_neg (by omega), e, Option.map_some, addr_add]
  · have e : (Instr.sliceAt 22 (.slice A n c) (some (.int .i64 (k : Int))) none none).run Tryd.prog W = (Instr.slice 22 (.slice A n c) (some (.int .i64 (k : Int))) none none).run Tryd.prog W := by
      simp [Instr.sliceAt, run_underlying Tryd.underlying22]
    have hsz : ∀ W, (sizeOf 5).run Tryd.prog W = .ok 1 W := fun _ => by kernel_rfl
    rw [e]
    simp [Instr.slice, run_underlying Tryd.underlying22, Instr.sliceBounds, Instr.sliceBound, hsz, hk, asIntOf, Result.andThen]

theorem bl_d (w : World) : Below w.heap.size w w.drew := (Below.refl _ _).drew
theorem bl_da (w : World) (o : Obj) : Below w.heap.size w (w.drew.alloc o) := ((Below.refl _ _).drew).alloc (Nat.le_refl _) _
theorem bl_c {w w' w'' : World} {B : Nat} (h : Below B w w') (hB : B ≤ w'.heap.size) (hb : Below w'.heap.size w' w'') : Below B w w'' := h.trans (hb.mono hB)
theorem bl_t {w w' w'' : World} (h : Below w.heap.size w w') (hb : Below w'.heap.size w' w'') : Below w.heap.size w w'' := bl_c h h.size hb
theorem bl_a {w w' : World} (h : Below w.heap.size w w') (o : Obj) : Below w.heap.size w (w'.alloc o) := h.alloc h.size _

set_option maxRecDepth 100000 in
set_option maxHeartbeats 4000000 in
theorem insertZ_walk (A0 : Option Addr) (c0 : Nat) (bs0 : List UInt8) (a1 : Int) (w : World) (rd0 : Rd w w.heap.size A0 bs0) (lc0 : bs0.length ≤ c0) (lm0 : c0 ≤ 1048576) (h1 : -9223372036854775808 ≤ a1 ∧ a1 ≤ 9223372036854775807)
    (hlaid : w.cell? ⟨0, 0, none⟩ = some (.iface 61 (.agg #[.pointer (some ⟨1, 39, none⟩)]))) :
    Calls Tryd.prog 5 #[.slice A0 bs0.length c0, .int .i64 a1] w fun e w' => e = .returned (.bool true) ∧ Below w.heap.size w w' := by
  clear hlaid
  obtain ⟨n, hn⟩ : ∃ n, n = bs0.length := ⟨_, rfl⟩
  rw [← hn] at lc0
  rw [← hn]
  have HN := Lib.hid hn
  clear hn
  by_cases hr0 : a1 < 0
  · have t0 : decide (a1 < 0) = true := by simp; omega
    go_enter Tryd.func5, Tryd.ntmps5
    go_wp2_with fail
    go_ret
    exact ⟨rfl, Below.refl _ _⟩
  have t0 : decide (a1 < 0) = false := by simp; omega
  by_cases hr1 : (n : Int) / 4 < a1
  · have t1 : decide ((n : Int) / 4 < a1) = true := by simp; omega
    go_enter Tryd.func5, Tryd.ntmps5
    go_wp2_with fail
    go_ret
    exact ⟨rfl, Below.refl _ _⟩
  have t1 : decide ((n : Int) / 4 < a1) = false := by simp; omega
  obtain ⟨k, rfl⟩ : ∃ k : Nat, a1 = (k : Int) := ⟨a1.toNat, by omega⟩
  obtain ⟨k4, ek4⟩ : ∃ k4, k4 = 4 * k := ⟨_, rfl⟩
  have hk4 : k4 ≤ n := by omega
  have e4 : (4 : Int) * (k : Int) = (k4 : Int) := by omega
  have EK4 := Lib.hid ek4
  clear ek4 hr0 hr1
  -- the plain parts
  obtain ⟨E1, eE1⟩ : ∃ E, E = Asc.enc (bs0.take k4) := ⟨_, rfl⟩
  obtain ⟨E3, eE3⟩ : ∃ E, E = Asc.enc (bs0.drop k4) := ⟨_, rfl⟩
  have lE1 : E1.length ≤ 1310725 := by rw [eE1]; have := Asc.enc_len (bs0.take k4); rw [List.length_take] at this; have := HN.out; omega
  have lE3 : E3.length ≤ 1310725 := by rw [eE3]; have := Asc.enc_len (bs0.drop k4); rw [List.length_drop] at this; have := HN.out; omega
  have htk : k4 = (bs0.take k4).length := by rw [List.length_take]; have := HN.out; omega
  have hdk : n - k4 = (bs0.drop k4).length := by rw [List.length_drop]; have := HN.out; omega
  obtain ⟨L, eL⟩ : ∃ L, L = (E1 ++ ([122] ++ E3)).length := ⟨_, rfl⟩
  have hdec : Asc.dec (4 * L + 8) true (E1 ++ ([122] ++ E3)).length (E1 ++ ([122] ++ E3)) 0 0 0 0 [] = (bs0.take k4 ++ ([0, 0, 0, 0] ++ bs0.drop k4), L, none) := by
    rw [← eL, eE1, eE3, EK4.out]
    refine Asc.dec_insert k bs0 (by have := HN.out; have := EK4.out; omega) ?_
    have g1 := Asc.groups_le (bs0.take (4 * k))
    have g3 := Asc.groups_le (bs0.drop (4 * k))
    rw [List.length_take] at g1
    rw [List.length_drop] at g3
    have hL := eL
    rw [eE1, eE3, EK4.out, List.length_append, List.length_append, List.length_singleton] at hL
    have := HN.out
    have := EK4.out
    omega
  have lL : L ≤ 2621451 := by rw [eL, List.length_append, List.length_append, List.length_singleton]; omega
  have HDEC := Lib.hid hdec
  have EL := Lib.hid eL
  have EE1 := Lib.hid eE1
  have EE3 := Lib.hid eE3
  have HTK := Lib.hid htk
  have HDK := Lib.hid hdk
  clear hdec eL eE1 eE3 htk hdk
  have t2 : (0 : Int) ≤ (k4 : Int) := by omega
  have hwk : IntKind.i64.wrap (k4 : Int) = (k4 : Int) := IntWalk.i64_in _ (by omega)
  have t3 : (k4 : Int) ≤ (n : Int) := by omega
  have t4 : (k4 : Int) ≤ (c0 : Int) := by omega
  have HE1 : Hid (∀ w' : World, Below w.heap.size w w' → Calls Tryd.prog 9 #[.slice A0 k4 c0] w' fun e w'' => ∃ g d, e = .returned (.slice (some ⟨g, 0, none⟩) E1.length d) ∧ Rd w'' w''.heap.size (some ⟨g, 0, none⟩) E1 ∧ Below w'.heap.size w' w'') := fun w' hb => by
    have h := impl_encode A0 k4 c0 (bs0.take k4) w' HTK.out (((rd0.below hb).take k4).mono hb.size) (by rw [← HTK.out]; omega)
    rw [← EE1.out] at h
    refine h.mono ?_
    rintro e w'' ⟨g, d, he, _, _, _, _, hrd, hb'⟩
    exact ⟨g, d, he, hrd, hb'⟩
  have HE3 : Hid (∀ (A2 : Option Addr) (m3 d2 : Nat) (w' : World), m3 = n - k4 → (∀ b off, A0 = some ⟨b, off, none⟩ → k4 < n → A2 = some ⟨b, off + k4, none⟩) → Below w.heap.size w w' → Calls Tryd.prog 9 #[.slice A2 m3 d2] w' fun e w'' => ∃ g d, e = .returned (.slice (some ⟨g, 0, none⟩) E3.length d) ∧ Rd w'' w''.heap.size (some ⟨g, 0, none⟩) E3 ∧ Below w'.heap.size w' w'') := fun A2 m3 d2 w' hm3 hA2 hb => by
    have h := impl_encode A2 m3 d2 (bs0.drop k4) w' (hm3.trans HDK.out) ((Rd.cut (rd0.below hb) (fun b off e hlt => hA2 b off e (by rw [HN.out]; exact hlt))).mono hb.size) (by rw [← HDK.out]; omega)
    rw [← EE3.out] at h
    refine h.mono ?_
    rintro e w'' ⟨g, d, he, _, _, _, _, hrd, hb'⟩
    exact ⟨g, d, he, hrd, hb'⟩
  have hs1 := fun W => slice_hi A0 n c0 k4 (by omega) W
  obtain ⟨A3, hA2, hs2⟩ := slice_lo A0 n c0 k4 hk4 lc0
  have HA2 := Lib.hid hA2
  clear hA2
  go_enter Tryd.func5, Tryd.ntmps5
  go_upto_region 3 with (fail)
  go_cut [5] (fun x wc => ∃ g d, x = .slice (some ⟨g, 0, none⟩) L d ∧ Hid (Rd wc wc.heap.size (some ⟨g, 0, none⟩) (E1 ++ ([122] ++ E3))) ∧ Hid (Below w.heap.size w wc))
  case first =>
    go_region_with (first
      | (go_at_call 9; ((with_reducible refine (HE1.out _ ?_).mono ?_); (first | exact bl_d _ | exact bl_ad _ _ | exact bl_da _ _); rintro e wA ⟨gA, dA, rfl, rdA, hbA⟩))
      | (go_at_call 9; ((with_reducible refine (HE3.out _ _ _ _ ?_ ?_ ?_).mono ?_); omega; (exact HA2.out); (first | exact bl_t (bl_d _) hbA | exact bl_a (bl_t (bl_d _) hbA) _ | exact bl_t (bl_ad _ _) hbA | exact bl_t (bl_da _ _) hbA); rintro e wC ⟨gC, dC, rfl, rdC, hbC⟩))
      | (go_at_call 12; ((with_reducible refine (joined3 _ _ _ _ _ _ _ _ _ _ E1 [122] E3 _ ?_ ?_ ?_ ?_ ?_ ?_ ?_ ?_).mono ?_); rfl; rfl; rfl; (first | exact (rdA.up hbC).al _ | exact (rdA.al _).up hbC | exact rdA.up hbC); (first | exact Rd.new wC [122] | exact (Rd.new wA [122]).up hbC | exact (Rd.up (Rd.drew (Rd.new w [122])) hbA).up hbC | exact ((Rd.new w.drew [122]).up hbA).up hbC); (first | exact rdC.al _ | exact rdC); (simp; omega); (first | rfl | simp); rintro e wE ⟨gE, dE, rfl, hoE, hbE, _⟩)))
    all_goals (go_wp2_with fail; go_meet; refine ⟨gE, dE, by rw [EL.out]; simp, hoE.rd, ?_⟩; first | exact bl_t (bl_a (bl_t (bl_t (bl_d _) hbA) hbC) _) hbE | exact bl_t (bl_t (bl_a (bl_t (bl_d _) hbA) _) hbC) hbE | exact bl_t (bl_t (bl_t (bl_ad _ _) hbA) hbC) hbE | exact bl_t (bl_t (bl_t (bl_da _ _) hbA) hbC) hbE)
  case rest =>
    obtain ⟨g, d, rfl, hrd, hbel⟩ := hcut
    obtain ⟨D, eD⟩ : ∃ D, D = bs0.take k4 ++ ([0, 0, 0, 0] ++ bs0.drop k4) := ⟨_, rfl⟩
    have hdec := HDEC.out
    rw [← eD] at hdec
    have HDEC' := Lib.hid hdec
    have zc := hbel.out.size
    clear hdec HDEC HE1 HE3
    go_wp2_with fail
    refine (whole_any (some ⟨g, 0, none⟩) L d (E1 ++ ([122] ++ E3)) true wc EL.out hrd.out (by omega) D L HDEC'.out).mono ?_
    rintro e w2 ⟨g2, rfl, hu2, hol2, hge2, hrd2, hb2⟩
    obtain ⟨lD, elD⟩ : ∃ l, l = D.length := ⟨_, rfl⟩
    rw [← elD] at hol2 ⊢
    have lDb : lD = n + 4 := by rw [elD, eD, List.length_append, List.length_append, ← HTK.out, ← HDK.out]; simp; omega
    have ELD := Lib.hid elD
    obtain ⟨R, eR⟩ : ∃ R, R = 4 * L + 8 := ⟨_, rfl⟩
    rw [← eR] at hol2 ⊢
    have z2 := hb2.size
    obtain ⟨V, hV⟩ : ∃ V, w2.alloc (.cells #[.slice (some ⟨g2, 0, none⟩) lD R, .int .i64 (L : Int), .int .i64 (-1)] 26) = V := ⟨_, rfl⟩
    have sV : V.heap.size = w2.heap.size + 1 := by subst hV; simp
    have bV : Below w2.heap.size w2 V := by subst hV; exact (Below.refl _ _).alloc (Nat.le_refl _) _
    have eV : V.heap[w2.heap.size]? = some (.cells #[.slice (some ⟨g2, 0, none⟩) lD R, .int .i64 (L : Int), .int .i64 (-1)] 26 (0, 0)) := by subst hV; exact heap_alloc_new w2 _
    have v0 : V.cell? ⟨w2.heap.size, 0, none⟩ = some (.slice (some ⟨g2, 0, none⟩) lD R) := by rw [cell_of_row V _ 0 _ _ _ eV]; rfl
    have v1 : V.cell? ⟨w2.heap.size, 1, none⟩ = some (.int .i64 (L : Int)) := by rw [cell_of_row V _ 1 _ _ _ eV]; rfl
    have v2 : V.cell? ⟨w2.heap.size, 2, none⟩ = some (.int .i64 (-1)) := by rw [cell_of_row V _ 2 _ _ _ eV]; rfl
    have bwV : Below w.heap.size w V := (hbel.out.trans (hb2.mono zc)).trans (bV.mono (by omega))
    have rD : Rd V V.heap.size (some ⟨g2, 0, none⟩) D := (hrd2.below bV).mono (by omega)
    have r1 : Rd V V.heap.size A0 (bs0.take k4) := ((rd0.below bwV).take k4).mono bwV.size
    have r3 : Rd V V.heap.size A3 (bs0.drop k4) := (Rd.cut (rd0.below bwV) (fun b off e hlt => HA2.out b off e (by rw [HN.out]; exact hlt))).mono bwV.size
    have lV : w2.heap.size < V.heap.size := by omega
    have start : Kp V.heap.size V V.drew := ⟨(Below.refl _ _).drew, Nat.le_refl _⟩
    have HJ : Hid (∀ (Lb Mb : Nat), Mb = V.heap.size → Lb = V.heap.size + 1 → Calls Tryd.prog 12 #[.slice (some ⟨Lb, 0, none⟩) 3 3] (((V.alloc (.cells #[.int .u8 0, .int .u8 0, .int .u8 0, .int .u8 0] 5)).alloc (.cells #[.slice A0 k4 c0, .slice (some ⟨Mb, 0, none⟩) 4 4, .slice A3 (n - k4) (c0 - k4)] 22)).drew) fun e w' => ∃ g d, e = .returned (.slice (some ⟨g, 0, none⟩) lD d) ∧ Rd w' w'.heap.size (some ⟨g, 0, none⟩) D ∧ Kp V.heap.size V w') := fun Lb Mb hMb hLb => by
      subst hMb hLb
      have hbW : Below V.heap.size V (V.alloc (.cells #[.int .u8 0, .int .u8 0, .int .u8 0, .int .u8 0] 5)).drew := ((Below.refl _ _).alloc (Nat.le_refl _) _).drew
      have h := joined3 (V.heap.size + 1) A0 (some ⟨V.heap.size, 0, none⟩) A3 k4 c0 4 4 (n - k4) (c0 - k4) (bs0.take k4) [0, 0, 0, 0] (bs0.drop k4) (V.alloc (.cells #[.int .u8 0, .int .u8 0, .int .u8 0, .int .u8 0] 5)).drew HTK.out rfl HDK.out (r1.up hbW) (Rd.drew (Rd.new V [0, 0, 0, 0])) (r3.up hbW) (by rw [← HTK.out, ← HDK.out]; simp; omega) (by simp)
      refine Calls.mono (show Calls Tryd.prog _ _ (((V.alloc (.cells #[.int .u8 0, .int .u8 0, .int .u8 0, .int .u8 0] 5)).alloc (.cells #[.slice A0 k4 c0, .slice (some ⟨V.heap.size, 0, none⟩) 4 4, .slice A3 (n - k4) (c0 - k4)] 22)).drew) _ from h) ?_
      rintro e w' ⟨gj, dj, he, ho, hb, _⟩
      rw [← eD] at he ho
      rw [← elD] at he
      exact ⟨gj, dj, he, ho.rd, ⟨hbW.trans (hb.mono (by simp)), Nat.le_trans (by simp) hb.size⟩⟩
    have HSM : Hid (∀ (gj dj : Nat) (W : World), Kp V.heap.size V W → Rd W W.heap.size (some ⟨gj, 0, none⟩) D → Calls Tryd.prog 11 #[.slice (some ⟨g2, 0, none⟩) lD R, .slice (some ⟨gj, 0, none⟩) lD dj] W fun e w' => e = .returned (.bool true) ∧ ∃ q, w' = W.drewN q) := fun gj dj W hK hr => by
      have h := same_any (some ⟨g2, 0, none⟩) (some ⟨gj, 0, none⟩) lD lD R dj D D V.heap.size W.heap.size W ELD.out ELD.out (rD.below hK.bel) hr (by rw [← ELD.out]; omega) (by rw [← ELD.out]; omega)
      rw [show decide (D = D) = true by simp] at h
      exact h
    have t9 : ((L : Int) == (L : Int)) = true := by simp
    have hmk4 := fun W => make4 W
    have sV1 : V.heap.size ≤ w2.heap.size + 1 := by omega
    clear eR elD eD eV rD r1 r3 hrd2 hb2 lDb sV
    go_wp2_with fail
    go_region_held3 (fun w' => (w'.cell? ⟨w2.heap.size, 0, none⟩ = some (.slice (some ⟨g2, 0, none⟩) lD R) ∧ w'.cell? ⟨w2.heap.size, 1, none⟩ = some (.int .i64 (L : Int)) ∧ w'.cell? ⟨w2.heap.size, 2, none⟩ = some (.int .i64 (-1))) ∧ Kp V.heap.size V w')
      (first | exact ⟨⟨v0, v1, v2⟩, start⟩ | (refine Kp.three v0 v1 v2 lV lV lV ?_; first | exact start | assumption | exact Kp.al start _ | exact Kp.al (by assumption) _ | exact Kp.al (Kp.al start _) _ | exact Kp.dr (by assumption) _))
      (first | (go_at_call 12; refine (HJ.out _ _ ?_ ?_).mono ?_; rfl; rfl; rintro e w' ⟨gj, dj, rfl, hrj, hkj⟩) | (go_at_call 11; refine (HSM.out _ _ _ (by assumption) (by assumption)).mono ?_; rintro e w' ⟨rfl, q, rfl⟩))
    have bfin : Below w.heap.size w (w'.drewN q) := below_drewN (bwV.trans (hkj.bel.mono bwV.size)) q
    go_wp2_with fail
    go_ret
    exact ⟨rfl, bfin⟩

end Go.Proofs.YtmddbfcghddacaaDoor

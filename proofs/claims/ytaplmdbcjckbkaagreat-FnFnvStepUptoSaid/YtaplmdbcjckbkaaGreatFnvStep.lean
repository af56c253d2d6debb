/-
  FnFnvStep: each sum of FNV follows from the one before and the byte that is written, for every kind and every list of bytes. Condition: the lengths' bounds.
-/
import Derived.Test.YtaplmdbcjckbkaaGreatSumsF
import Derived.Test.YtaplmdbcjckbkaaGreatNext
import Derived.Deep.LoopGhost
import Derived.Deep.DeepCutAuto
namespace Go.Proofs.YtaplmdbcjckbkaaGreat
open Go.RowKit
set_option linter.unusedVariables false

theorem ones_sums (S : List UInt8 → List UInt8) (bs acc : List UInt8) (i : Nat) (hi : i ≤ bs.length) : (sumsFrom S acc (pcs bs (List.replicate bs.length 1)))[i]? = some (S (acc ++ bs.take (i + 1))) := by
  induction bs generalizing acc i with
  | nil =>
    obtain rfl : i = 0 := by simpa using hi
    simp [pcs, sumsFrom]
  | cons b r ih =>
    rw [List.length_cons, List.replicate_succ, pcs]
    show (S (acc ++ [b]) :: sumsFrom S (acc ++ [b]) (pcs r (List.replicate r.length 1)))[i]? = _
    cases i with
    | zero => simp
    | succ j =>
      rw [List.getElem?_cons_succ, ih (acc ++ [b]) j (by simpa using hi)]
      simp

theorem OwnV.rdI {w : World} {base g c n : Nat} (h : OwnV 3 w base g c (List.replicate n (.int .i64 1))) : RdI w w.heap.size (some ⟨g, 0, none⟩) (List.replicate n 1) := by
  refine ⟨fun z hz => ?_, .inr ⟨g, 0, rfl, h.lt'.2, fun i x hx => ?_⟩⟩
  · rw [(List.mem_replicate.1 hz).2]; omega
  · rw [Nat.zero_add]
    refine h.cell ?_
    rw [List.getElem?_replicate] at hx ⊢
    split at hx
    · rename_i hi
      rw [if_pos hi]
      injection hx with hx
      rw [hx]
    · cases hx

theorem wv_ne {u v u' v' : Int} (h : (Value.agg #[.int .u64 u, .int .u64 v]) = .agg #[.int .u64 u', .int .u64 v']) : u = u' ∧ v = v' := by simpa using h

theorem grown_set2 (w : World) (g i j : Nat) (a b : Value) : w.grownBy ((w.setCell ⟨g, i, none⟩ a).setCell ⟨g, j, none⟩ b) (some g) :=
  ⟨rfl, rfl, rfl, by simp [World.setCell], fun k _ hne => (Below.heap_setCell _ ⟨g, j, none⟩ b k (fun e => hne (by rw [e]))).trans (Below.heap_setCell w ⟨g, i, none⟩ a k (fun e => hne (by rw [e])))⟩

set_option maxRecDepth 100000 in
set_option maxHeartbeats 8000000 in
theorem fnvStep_walk (a0 : Int) (A1 : Option Addr) (c1 : Nat) (bs1 : List UInt8) (w : World) (h0 : -9223372036854775808 ≤ a0 ∧ a0 ≤ 9223372036854775807) (rd1 : Rd w w.heap.size A1 bs1) (lc1 : bs1.length ≤ c1) (lm1 : c1 ≤ 1048576) :
    Calls Tryz.prog 5 #[.int .i64 a0, .slice A1 bs1.length c1] w fun e w' => e = .returned (.bool true) ∧ Below w.heap.size w w' := by
  obtain ⟨m, hm⟩ : ∃ m, m = bs1.length := ⟨_, rfl⟩
  rw [← hm] at lc1
  rw [← hm]
  have HM := Lib.hid hm
  clear hm
  by_cases hr : 0 ≤ a0 ∧ a0 ≤ 5
  case neg =>
    have hd : decide (0 ≤ a0 ∧ a0 ≤ 5) = false := decide_eq_false hr
    go_enter Tryz.func5, Tryz.ntmps5
    go_wp2_with fail
    refine (isFnv_any _ w).mono ?_
    rintro e w1 ⟨rfl, rfl⟩
    rw [hd]
    go_wp2
    go_ret
    exact ⟨rfl, Below.refl _ _⟩
  case pos =>
  have hd : decide (0 ≤ a0 ∧ a0 ≤ 5) = true := decide_eq_true hr
  obtain ⟨k, rfl, hk⟩ : ∃ k : Nat, a0 = (k : Int) ∧ k < 6 := ⟨a0.toNat, by omega, by omega⟩
  clear hr h0
  obtain ⟨u0, v0, hw0⟩ := wide_cells (Fnv.sum k [])
  have HW0 := Lib.hid hw0
  have hoff : Fnv.sum k [] = Fnv.offset k := rfl
  have HOFF := Lib.hid hoff
  clear hw0 hoff
  go_enter Tryz.func5, Tryz.ntmps5
  go_wp2_with fail
  refine (isFnv_any _ w).mono ?_
  rintro e w0 ⟨rfl, rfl⟩
  rw [hd]
  go_wp2_with fail
  go_loopg [5, 17] m (fun gk ov ix wr => ∃ (i g d : Nat), i + gk = m ∧ ix = .int .i64 (i : Int) ∧ ov = .slice (some ⟨g, 0, none⟩) i d ∧ Hid (OwnV 3 wr w0.heap.size g d (List.replicate i (.int .i64 1))) ∧ Hid (Below w0.heap.size w0 wr))
  case atStart => exact ⟨0, w0.heap.size, 0, by omega, rfl, rfl, OwnV.empty _ w0 _ (Nat.le_refl _), (Below.refl _ _).alloc (Nat.le_refl _) _⟩
  case round =>
    obtain ⟨i, g, d, hi, rfl, rfl, hown, hbel⟩ := hrel
    have HI := Lib.hid hi
    have him : i ≤ m := by omega
    clear hi
    have hsz := hbel.out.size
    by_cases hlt : i < m
    · have hcl : (wr.alloc (.cells #[.int .i64 1] 3)).cell? ⟨wr.heap.size, 0, none⟩ = some (.int .i64 1) := by rw [cell_of_row _ wr.heap.size _ _ _ _ (heap_alloc_new wr _)]; rfl
      have HCL := Lib.hid hcl
      have hown3 : OwnV 3 (wr.alloc (.cells #[.int .i64 1] 3)) w0.heap.size g d (List.replicate i (.int .i64 1)) := hown.out.alloc _
      have HO3 := Lib.hid hown3
      clear hcl hown3
      go_wp2_with (at_builtin; refine wpList_append_one infoInt rfl (by decide) rfl _ _ 34 rfl Tryz.underlying34 w0.heap.size g d (List.replicate i (.int .i64 1)) i rfl (by simp) HO3.out wr.heap.size 1 (.int .i64 1) rfl HCL.out rfl (by simp; omega) (by simp; omega) ?_; intro g' c'' w3 h1 h2 h3; clear h3)
      have hb3 : Below w0.heap.size w0 w3 := (hbel.out.alloc hsz _).grown h2 (by simp; omega) (fun j hj => by injection hj with hj; subst hj; exact hown.out.lt'.1)
      rw [show List.replicate i (Value.int .i64 1) ++ [.int .i64 1] = List.replicate (i + 1) (.int .i64 1) by rw [List.replicate_succ']] at h1
      go_roundg (gk - 1)
      case measure => have := HI.out; omega
      case rel => exact ⟨i + 1, g', c'', by have := HI.out; omega, by go_num, by simp, h1, hb3⟩
    · obtain rfl : i = m := by omega
      obtain ⟨wr0, rfl⟩ : ∃ wr0 : World, wr0 = wr := ⟨_, rfl⟩
      have hriv := hown.out.rdI
      have HRI := Lib.hid hriv
      clear hriv
      go_wp2_with fail
      refine (sumsOf_law k hk A1 i c1 bs1 (some ⟨g, 0, none⟩) i d (List.replicate i 1) wr0 HM.out ((rd1.below hbel.out).mono hsz) lc1 (by omega) (by simp) HRI.out (by omega)).mono ?_
      rintro e w1 ⟨G, D, vs, rfl, hvl, oV, pV, hb1⟩
      have z1 := hb1.size
      have bw1 : Below w0.heap.size w0 w1 := hbel.out.trans (hb1.mono hsz)
      have t1 : (((i + 1 : Nat) : Int) != (i : Int) + 1) = false := by simp
      have OV := Lib.hid oV
      have PV := Lib.hid pV
      have HVL := Lib.hid hvl
      clear oV pV hvl hb1 HRI hown hbel hlt
      go_wp2_with fail
      refine (fnv_any k hk none 0 0 [] w1 rfl (Rd.nil _ _ _) (by simp)).mono ?_
      rintro e w2 ⟨rfl, hb2⟩
      rw [HW0.out]
      have z2 := hb2.size
      have bw2 : Below w0.heap.size w0 w2 := bw1.trans (hb2.mono (by omega))
      have oV2 := OV.out.below hb2
      have pV2 := PV.out.below hb2
      have hoff : wv (Fnv.offset k) = .agg #[.int .u64 u0, .int .u64 v0] := by rw [← HOFF.out]; exact HW0.out
      have HO : Hid (∀ w' : World, Calls Tryz.prog 10 #[.int .i64 (k : Int)] w' fun e w'' => e = .returned (.agg #[.int .u64 u0, .int .u64 v0]) ∧ Below w'.heap.size w' w'') := fun w' => by rw [← hoff]; exact offset_any k hk w'
      have OV2 := Lib.hid oV2
      have PV2 := Lib.hid pV2
      clear hoff hb2 oV2 pV2
      go_wp2_with fail
      obtain ⟨V, hV⟩ : ∃ V, w2.alloc (.cells #[.int .u64 u0, .int .u64 v0] 26) = V := ⟨_, rfl⟩
      have sv : V.heap.size = w2.heap.size + 1 := by subst hV; simp
      have ev : V.heap[w2.heap.size]? = some (.cells #[.int .u64 u0, .int .u64 v0] 26 (0, 0)) := by subst hV; exact heap_alloc_new w2 _
      have bv : Below w2.heap.size w2 V := by subst hV; exact (Below.refl _ _).alloc (Nat.le_refl _) _
      rw [hV]
      have c0 : V.cell? ⟨w2.heap.size, 0, none⟩ = some (.int .u64 u0) := by rw [cell_of_row V _ 0 _ _ _ ev]; rfl
      have c1' : V.cell? ⟨w2.heap.size, 1, none⟩ = some (.int .u64 v0) := by rw [cell_of_row V _ 1 _ _ _ ev]; rfl
      have o4 : (u0 == u0) = true := by simp
      have o5 : (v0 == v0) = true := by simp
      have hsz' : w2.heap.size < V.heap.size := by omega
      have start : Kp V.heap.size V V.drew := ⟨(Below.refl _ _).drew, Nat.le_refl _⟩
      have EV := Lib.hid ev
      clear hV ev
      go_region_held3 (fun w' => (w'.cell? ⟨w2.heap.size, 0, none⟩ = some (.int .u64 u0) ∧ w'.cell? ⟨w2.heap.size, 1, none⟩ = some (.int .u64 v0)) ∧ Kp V.heap.size V w')
        (first | exact ⟨⟨c0, c1'⟩, start⟩ | (refine Kp.two c0 c1' hsz' hsz' ?_; first | exact start | (refine Kp.step ?_ start; assumption)) | exact Kp.two_step hsz' hsz' (by assumption) (by assumption))
        (first | (go_at_call 10; refine (HO.out _).mono ?_; rintro e w' ⟨rfl, hb⟩))
      have K : Kp V.heap.size V w' := (by assumption : (w'.cell? ⟨w2.heap.size, 0, none⟩ = some (.int .u64 u0) ∧ w'.cell? ⟨w2.heap.size, 1, none⟩ = some (.int .u64 v0)) ∧ Kp V.heap.size V w').2
      have bk : Below w0.heap.size w0 w' := (bw2.trans (bv.mono (by omega))).trans (K.bel.mono (by omega))
      have ev' : w'.heap[w2.heap.size]? = some (.cells #[.int .u64 u0, .int .u64 v0] 26 (0, 0)) := (K.bel.block _ (by omega)).trans EV.out
      have oV' := (OV2.out.below bv).below K.bel
      have pV' := (PV2.out.below bv).below K.bel
      have kz := K.le
      have EV' := Lib.hid ev'
      have OV' := Lib.hid oV'
      have PV' := Lib.hid pV'
      have BK := Lib.hid bk
      clear K ev' oV' pV' bk bv bw2 bw1 start c0 c1' o4 o5 hb
      go_wp2_with fail
      go_loopg [48] (i + 1) (fun gk ix wr => ∃ (j : Nat) (u v : Int), j + gk = i + 1 ∧ ix = .int .i64 (j : Int) ∧ Hid (wv (Fnv.sum k (bs1.take j)) = .agg #[.int .u64 u, .int .u64 v]) ∧ Hid (wr.heap[w2.heap.size]? = some (.cells #[.int .u64 u, .int .u64 v] 26 (0, 0))) ∧
        Hid (OwnV 22 wr wr0.heap.size G D vs) ∧ Hid (Pieces wr wr0.heap.size vs (sumB k [] :: sumsFrom (sumB k) [] (pcs bs1 (List.replicate i 1)))) ∧ Hid (Below w0.heap.size w0 wr) ∧ w2.heap.size < wr.heap.size)
      case atStart => exact ⟨0, u0, v0, by omega, rfl, HW0, EV', OV', PV', BK, by omega⟩
      case round =>
        obtain ⟨j, u, v, hj, rfl, hwS, hbS, hoV, hpV, hbel2, hszr⟩ := hrel
        have HJ := Lib.hid hj
        have hji : j ≤ i + 1 := by omega
        clear hj
        have zr := hbel2.out.size
        have c0 : wr.cell? ⟨w2.heap.size, 0, none⟩ = some (.int .u64 u) := by rw [cell_of_row wr _ 0 _ _ _ hbS.out]; rfl
        have c1' : wr.cell? ⟨w2.heap.size, 1, none⟩ = some (.int .u64 v) := by rw [cell_of_row wr _ 1 _ _ _ hbS.out]; rfl
        by_cases hlt : j < i + 1
        · obtain ⟨pv, hpv⟩ : ∃ pv, vs[1 + j]? = some pv := ⟨_, List.getElem?_eq_getElem (by have := HVL.out; omega)⟩
          have hps : (sumB k [] :: sumsFrom (sumB k) [] (pcs bs1 (List.replicate i 1)))[1 + j]? = some (sumB k (bs1.take (j + 1))) := by
            rw [Nat.add_comm, List.getElem?_cons_succ, HM.out]
            exact ones_sums (sumB k) bs1 [] j (by have := HM.out; omega)
          have hpa := hpV.out.2 (1 + j) pv _ hpv hps
          have hcv := hoV.out.cell hpv
          have hslen := sumB_len hk (bs1.take (j + 1))
          have hsnum := sumB_num hk (bs1.take (j + 1))
          obtain ⟨gi, di, csi, rfl, hgi, hgb, hpd, hdm, hcs⟩ := hpa
          have hrdp := (hpV.out.2 (1 + j) _ _ hpv hps).rd
          rw [hslen] at hcv hpd
          obtain ⟨sz, esz⟩ : ∃ sz, sz = szB k := ⟨_, rfl⟩
          rw [← esz] at hcv hpd hslen
          have lsz : sz ≤ 16 := by rw [esz]; rcases kinds6 hk with rfl | rfl | rfl | rfl | rfl | rfl <;> simp [szB]
          have HSZ : Hid (∀ w' : World, Calls Tryz.prog 13 #[.int .i64 (k : Int)] w' fun e w'' => e = .returned (.int .i64 (sz : Int)) ∧ Below w'.heap.size w' w'') := fun w' => by rw [esz]; exact size_any k hk w'
          have t3 : ((sz : Int) != (sz : Int)) = false := by simp
          have hGr := hoV.out.lt'
          by_cases hji2 : j < i
          · obtain ⟨b, off, x, rfl, hbB, hx, hcx0⟩ := rd1.at (k := j) (by have := HM.out; omega)
            have hcx : wr.cell? ⟨b, off + j, none⟩ = some (.int .u8 (x.toNat : Int)) := (hbel2.out.cell (p := ⟨b, off + j, none⟩) hbB).trans hcx0
            have htk : bs1.take (j + 1) = bs1.take j ++ [x] := by rw [List.take_add_one, hx]; rfl
            have hnx : Fnv.step k (Fnv.sum k (bs1.take j)) x = Fnv.sum k (bs1.take (j + 1)) := by rw [htk, Fnv.sum_append]; rfl
            obtain ⟨n0, n1, hn'⟩ := wide_cells (Fnv.sum k (bs1.take (j + 1)))
            have HN' := Lib.hid hn'
            have ls := Fnv.sum_lt k (bs1.take j) hk
            have HB : Hid (Calls Tryz.prog 12 #[.int .i64 (k : Int), .agg #[.int .u64 u, .int .u64 v], .int .u8 (x.toNat : Int)] wr.drew fun e w' => e = .returned (.agg #[.int .u64 n0, .int .u64 n1]) ∧ Below wr.heap.size wr w' ∧ w'.heap[w2.heap.size]? = some (.cells #[.int .u64 u, .int .u64 v] 26 (0, 0)) ∧ w'.cell? ⟨w2.heap.size, 0, none⟩ = some (.int .u64 u) ∧ w'.cell? ⟨w2.heap.size, 1, none⟩ = some (.int .u64 v) ∧ (∀ q, w'.frozen? ⟨w2.heap.size, q, none⟩ = false)) := by
              have h := next_any k hk _ ls x wr.drew
              rw [hnx, hn', hwS.out] at h
              refine h.mono ?_
              rintro e w' ⟨he, hb⟩
              have hb' : Below wr.heap.size wr w' := ((Below.refl _ wr).drew).trans hb
              have hbl := (hb'.block w2.heap.size (by omega)).trans hbS.out
              exact ⟨he, hb', hbl, by rw [cell_of_row w' _ 0 _ _ _ hbl]; rfl, by rw [cell_of_row w' _ 1 _ _ _ hbl]; rfl, fun q => frozen_of_row w' _ q _ _ hbl⟩
            have hnum : wv (Fnv.num 0 (sumB k (bs1.take (j + 1)))) = .agg #[.int .u64 n0, .int .u64 n1] := by rw [hsnum]; exact hn'
            have RDP := Lib.hid hrdp
            have HSL := Lib.hid hslen
            have HNUM := Lib.hid hnum
            have j0 : (0 : Int) ≤ (j : Int) := by omega
            have j1 : (j : Int) < (i : Int) := by omega
            have hne : gi ≠ w2.heap.size := by
              rintro rfl
              rw [hbS.out] at hgb
              injection hgb with hgb
              injection hgb with _ hgb
              exact absurd hgb (by decide)
            have hnG : G ≠ w2.heap.size := by
              rintro rfl
              obtain ⟨cur, hc⟩ := hoV.out.block
              rw [hbS.out] at hc
              injection hc with hc
              injection hc with _ hc
              exact absurd hc (by decide)
            have hgl := heap_lt hgb
            have HPV := Lib.hid hpv
            have HPS := Lib.hid hps
            have q4 : (n0 == n0) = true := by simp
            have q5 : (n1 == n1) = true := by simp
            clear hn' hx ls hnx htk hsnum hslen hnum hrdp esz hps hpv hcs hgb hcx0
            go_wp2_with fail
            go_region_with (go_at_call 12; refine HB.out.mono ?_; rintro e w' ⟨rfl, hbw, hbl, kc0, kc1, kfz⟩)
            all_goals
              obtain ⟨X, hX⟩ : ∃ X, (w'.setCell ⟨w2.heap.size, 0, none⟩ (.int .u64 n0)).setCell ⟨w2.heap.size, 1, none⟩ (.int .u64 n1) = X := ⟨_, rfl⟩
              have xb : X.heap[w2.heap.size]? = some (.cells #[.int .u64 n0, .int .u64 n1] 26 (0, 0)) := by subst hX; rw [heap_setCell_same _ _ 1 _ _ _ (heap_setCell_same _ _ 0 _ _ _ hbl)]; rfl
              have gX : w'.grownBy X (some w2.heap.size) := by subst hX; exact grown_set2 w' _ _ _ _ _
              have oX := (hoV.out.below hbw).grown gX hnG
              have pX := (hpV.out.below hbw).grown gX hbl (by decide)
              have sz' := hbw.size
              have szX := gX.size
              have bX : Below w0.heap.size w0 X := (hbel2.out.trans (hbw.mono zr)).grown gX (by omega) (fun q hq => by injection hq with hq; omega)
              have hszX : w2.heap.size < X.heap.size := by omega
              rw [hX]
              clear hX gX hbl kc0 kc1 kfz hbw
              go_wp2_with fail
              have rX := (pX.2 (1 + j) _ _ HPV.out HPS.out).rd
              have x0 : X.cell? ⟨w2.heap.size, 0, none⟩ = some (.int .u64 n0) := by rw [cell_of_row X _ 0 _ _ _ xb]; rfl
              have x1 : X.cell? ⟨w2.heap.size, 1, none⟩ = some (.int .u64 n1) := by rw [cell_of_row X _ 1 _ _ _ xb]; rfl
              have startX : Kp X.heap.size X X.drew := ⟨(Below.refl _ _).drew, Nat.le_refl _⟩
              have HNB : Hid (∀ w' : World, ((w'.cell? ⟨w2.heap.size, 0, none⟩ = some (.int .u64 n0) ∧ w'.cell? ⟨w2.heap.size, 1, none⟩ = some (.int .u64 n1)) ∧ Kp X.heap.size X w') → Calls Tryz.prog 14 #[.slice (some ⟨gi, 0, none⟩) sz di] w' fun e w'' => e = .returned (.agg #[.int .u64 n0, .int .u64 n1]) ∧ Below w'.heap.size w' w'') := fun w' hK => by
                rw [← HNUM.out]
                exact number_any _ sz di X.heap.size _ w' HSL.out.symm (rX.below hK.2.bel) hK.2.le (by omega)
              have XB := Lib.hid xb
              have PX := Lib.hid pX
              have OX := Lib.hid oX
              have BX := Lib.hid bX
              clear xb pX oX bX rX
              go_region_held3 (fun w' => (w'.cell? ⟨w2.heap.size, 0, none⟩ = some (.int .u64 n0) ∧ w'.cell? ⟨w2.heap.size, 1, none⟩ = some (.int .u64 n1)) ∧ Kp X.heap.size X w')
                (first | exact ⟨⟨x0, x1⟩, startX⟩ | (refine Kp.two x0 x1 hszX hszX ?_; first | exact startX | (refine Kp.step ?_ startX; assumption)) | exact Kp.two_step hszX hszX (by assumption) (by assumption))
                (first | (go_at_call 13; refine (HSZ.out _).mono ?_; rintro e w' ⟨rfl, hb⟩) | (go_at_call 14; refine (HNB.out _ (by assumption)).mono ?_; rintro e w' ⟨rfl, hb⟩))
              have K2 : Kp X.heap.size X w' := (by assumption : (w'.cell? ⟨w2.heap.size, 0, none⟩ = some (.int .u64 n0) ∧ w'.cell? ⟨w2.heap.size, 1, none⟩ = some (.int .u64 n1)) ∧ Kp X.heap.size X w').2
              have hk2 := K2.le
              have F1 : Hid (w'.heap[w2.heap.size]? = some (.cells #[.int .u64 n0, .int .u64 n1] 26 (0, 0))) := (K2.bel.block _ hszX).trans XB.out
              have F2 := Lib.hid (OX.out.below K2.bel)
              have F3 := Lib.hid (PX.out.below K2.bel)
              have F4 : Hid (Below w0.heap.size w0 w') := BX.out.trans (K2.bel.mono (by omega))
              clear K2
              go_wp2_with fail
              go_roundg (gk - 1)
            all_goals first
              | (case measure => have := HJ.out; omega)
              | (case rel => exact ⟨j + 1, n0, n1, by have := HJ.out; omega, by go_num, HN', F1, F2, F3, F4, by omega⟩)
          · obtain rfl : j = i := by omega
            have hfull : bs1.take (j + 1) = bs1.take j := by rw [List.take_of_length_le (by have := HM.out; omega), List.take_of_length_le (by have := HM.out; omega)]
            rw [hfull] at hsnum hslen hps hrdp
            have hnum : wv (Fnv.num 0 (sumB k (bs1.take j))) = .agg #[.int .u64 u, .int .u64 v] := by rw [hsnum]; exact hwS.out
            have HNX : Hid (wv (Fnv.sum k (bs1.take (j + 1))) = .agg #[.int .u64 u, .int .u64 v]) := by show _ = _; rw [hfull]; exact hwS.out
            have HSL := Lib.hid hslen
            have HNUM := Lib.hid hnum
            have HPV := Lib.hid hpv
            have HPS := Lib.hid hps
            have q4 : (u == u) = true := by simp
            have q5 : (v == v) = true := by simp
            obtain ⟨X, rfl⟩ : ∃ X : World, X = wr := ⟨_, rfl⟩
            have xb := hbS.out
            have oX := hoV.out
            have pX := hpV.out
            have bX := hbel2.out
            have hszX := hszr
            clear hsnum hslen hnum hrdp esz hps hpv hcs hgb hfull hji2
            go_wp2_with fail
            have rX := (pX.2 (1 + j) _ _ HPV.out HPS.out).rd
            have x0 : X.cell? ⟨w2.heap.size, 0, none⟩ = some (.int .u64 u) := by rw [cell_of_row X _ 0 _ _ _ xb]; rfl
            have x1 : X.cell? ⟨w2.heap.size, 1, none⟩ = some (.int .u64 v) := by rw [cell_of_row X _ 1 _ _ _ xb]; rfl
            have startX : Kp X.heap.size X X.drew := ⟨(Below.refl _ _).drew, Nat.le_refl _⟩
            have HNB : Hid (∀ w' : World, ((w'.cell? ⟨w2.heap.size, 0, none⟩ = some (.int .u64 u) ∧ w'.cell? ⟨w2.heap.size, 1, none⟩ = some (.int .u64 v)) ∧ Kp X.heap.size X w') → Calls Tryz.prog 14 #[.slice (some ⟨gi, 0, none⟩) sz di] w' fun e w'' => e = .returned (.agg #[.int .u64 u, .int .u64 v]) ∧ Below w'.heap.size w' w'') := fun w' hK => by
              rw [← HNUM.out]
              exact number_any _ sz di X.heap.size _ w' HSL.out.symm (rX.below hK.2.bel) hK.2.le (by omega)
            have XB := Lib.hid xb
            have PX := Lib.hid pX
            have OX := Lib.hid oX
            have BX := Lib.hid bX
            clear xb pX oX bX rX
            go_region_held3 (fun w' => (w'.cell? ⟨w2.heap.size, 0, none⟩ = some (.int .u64 u) ∧ w'.cell? ⟨w2.heap.size, 1, none⟩ = some (.int .u64 v)) ∧ Kp X.heap.size X w')
              (first | exact ⟨⟨x0, x1⟩, startX⟩ | (refine Kp.two x0 x1 hszX hszX ?_; first | exact startX | (refine Kp.step ?_ startX; assumption)) | exact Kp.two_step hszX hszX (by assumption) (by assumption))
              (first | (go_at_call 13; refine (HSZ.out _).mono ?_; rintro e w' ⟨rfl, hb⟩) | (go_at_call 14; refine (HNB.out _ (by assumption)).mono ?_; rintro e w' ⟨rfl, hb⟩))
            have K2 : Kp X.heap.size X w' := (by assumption : (w'.cell? ⟨w2.heap.size, 0, none⟩ = some (.int .u64 u) ∧ w'.cell? ⟨w2.heap.size, 1, none⟩ = some (.int .u64 v)) ∧ Kp X.heap.size X w').2
            have hk2 := K2.le
            have F1 : Hid (w'.heap[w2.heap.size]? = some (.cells #[.int .u64 u, .int .u64 v] 26 (0, 0))) := (K2.bel.block _ hszX).trans XB.out
            have F2 := Lib.hid (OX.out.below K2.bel)
            have F3 := Lib.hid (PX.out.below K2.bel)
            have F4 : Hid (Below w0.heap.size w0 w') := BX.out.trans (K2.bel.mono (by omega))
            clear K2
            go_wp2_with fail
            go_roundg (gk - 1)
            all_goals first
              | (case measure => have := HJ.out; omega)
              | (case rel => exact ⟨j + 1, u, v, by have := HJ.out; omega, by go_num, HNX, F1, F2, F3, F4, by omega⟩)
        · clear c0 c1'
          go_wp2_with fail
          go_ret
          exact ⟨rfl, hbel2.out⟩

end Go.Proofs.YtaplmdbcjckbkaaGreat

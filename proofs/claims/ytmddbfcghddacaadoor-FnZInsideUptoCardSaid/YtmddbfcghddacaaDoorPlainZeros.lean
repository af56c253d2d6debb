/-
  FnPlainZeros: a text in which each z is replaced by five digits 0 stands for the same data, whole and cut behind any group. Condition: the lengths' bounds.
-/
import Derived.Test.YtmddbfcghddacaaDoorRoom
import Derived.Test.YtmddbfcghddacaaDoorApp
import Derived.Test.YtmddbfcghddacaaDoorApp2
import Derived.Test.YtmddbfcghddacaaDoorAppS
import Derived.Deep.RegionHeld3
namespace Go.Proofs.YtmddbfcghddacaaDoor
open Go.RowKit
set_option linter.unusedVariables false

/-- the first i bytes of a text, five digits for each z -/
def plainTo (bs : List UInt8) (i : Nat) : List UInt8 := (bs.take i).flatMap Asc.pz
theorem pz_step {bs : List UInt8} {i : Nat} {x : UInt8} (hx : bs[i]? = some x) : plainTo bs i ++ Asc.pz x = plainTo bs (i + 1) := by
  unfold plainTo
  rw [List.take_add_one, hx, List.flatMap_append]
  simp
theorem pz_le (bs : List UInt8) (i : Nat) : (plainTo bs i).length ≤ (bs.flatMap Asc.pz).length := by
  unfold plainTo
  conv => rhs; rw [← List.take_append_drop i bs, List.flatMap_append, List.length_append]
  omega

/-- what a region with calls keeps: the blocks below a bound -/
structure Kp (B : Nat) (w w' : World) : Prop where
  bel : Below B w w'
  le : B ≤ w'.heap.size
theorem Kp.step {B : Nat} {w w1 w2 : World} (hb : Below w1.heap.size w1 w2) (h : Kp B w w1) : Kp B w w2 := ⟨h.bel.trans (hb.mono h.le), Nat.le_trans h.le hb.size⟩
theorem Kp.cell {B : Nat} {w w1 : World} (h : Kp B w w1) {p : Addr} (hp : p.block < B) {v : Value} (hv : w.cell? p = some v) : w1.cell? p = some v := (h.bel.cell hp).trans hv
theorem Kp.three {B : Nat} {w w1 : World} {p1 p2 p3 : Addr} {v1 v2 v3 : Value} (c1 : w.cell? p1 = some v1) (c2 : w.cell? p2 = some v2) (c3 : w.cell? p3 = some v3) (l1 : p1.block < B) (l2 : p2.block < B) (l3 : p3.block < B) (h : Kp B w w1) :
    (w1.cell? p1 = some v1 ∧ w1.cell? p2 = some v2 ∧ w1.cell? p3 = some v3) ∧ Kp B w w1 := ⟨⟨h.cell l1 c1, h.cell l2 c2, h.cell l3 c3⟩, h⟩

set_option maxRecDepth 100000 in
set_option maxHeartbeats 4000000 in
theorem plainZeros_walk (A0 : Option Addr) (c0 : Nat) (bs0 : List UInt8) (w : World) (rd0 : Rd w w.heap.size A0 bs0) (lc0 : bs0.length ≤ c0) (lm0 : c0 ≤ 1048576)
    (hlaid : w.cell? ⟨0, 0, none⟩ = some (.iface 61 (.agg #[.pointer (some ⟨1, 39, none⟩)]))) :
    Calls Tryd.prog 7 #[.slice A0 bs0.length c0] w fun e w' => e = .returned (.bool true) ∧ Below w.heap.size w w' := by
  clear hlaid
  obtain ⟨n, hn⟩ : ∃ n, n = bs0.length := ⟨_, rfl⟩
  rw [← hn] at lc0
  rw [← hn]
  have HN := Lib.hid hn
  clear hn
  obtain ⟨T, hT⟩ : ∃ T, T = (Asc.enc bs0).length := ⟨_, rfl⟩
  have lT : T ≤ 1310725 := by have := Asc.enc_len bs0; have := HN.out; omega
  have HT := Lib.hid hT
  have hP := Asc.enc_plain bs0
  have hPl := Asc.encP_len bs0
  have HP := Lib.hid hP
  have lP : (Asc.encP bs0).length ≤ 1310725 := by have := HN.out; omega
  clear hT hP hPl
  go_enter Tryd.func7, Tryd.ntmps7
  go_wp2_with fail
  obtain ⟨W, hW⟩ : ∃ W, w.alloc (.cells #[] 5) = W := ⟨_, rfl⟩
  have sW : W.heap.size = w.heap.size + 1 := by subst hW; simp
  have bW : Below w.heap.size w W := by subst hW; exact (Below.refl _ _).alloc (Nat.le_refl _) _
  have oW : Own W w.heap.size w.heap.size 0 [] := by subst hW; exact Own.empty w _ (Nat.le_refl _)
  rw [hW]
  clear hW
  refine (impl_encode A0 n c0 bs0 W HN.out ((rd0.below bW).mono (by omega)) (by have := HN.out; omega)).mono ?_
  rintro e w1 ⟨gt, dT, rfl, hd1, hd2, hg1, hg2, hrd, hb1⟩
  rw [← HT.out] at hd1 ⊢
  have z1 := hb1.size
  have o1 := oW.below hb1
  have bw1 : Below w.heap.size w w1 := bW.trans (hb1.mono (by omega))
  have HRD := Lib.hid hrd
  have O1 := Lib.hid o1
  have BW1 := Lib.hid bw1
  clear hrd hb1 oW bW o1 bw1
  go_wp2_with fail
  go_loopg [3, 13] T (fun gk pv ix wr => ∃ (i g c l : Nat), i + gk = T ∧ ix = .int .i64 (i : Int) ∧ pv = .slice (some ⟨g, 0, none⟩) l c ∧ g ≠ gt ∧ Hid (l = (plainTo (Asc.enc bs0) i).length) ∧ Hid (Own wr w.heap.size g c (plainTo (Asc.enc bs0) i)) ∧ Hid (wr.heap[gt]? = w1.heap[gt]?) ∧ Hid (Below w.heap.size w wr) ∧ w1.heap.size ≤ wr.heap.size)
  case atStart => exact ⟨0, w.heap.size, 0, 0, by omega, rfl, rfl, by omega, rfl, O1, rfl, BW1, Nat.le_refl _⟩
  case round =>
    obtain ⟨i, g, c, l, hi, rfl, rfl, hne, hl, hown, hblk, hbel, zr⟩ := hrel
    have HI := Lib.hid hi
    have hiT : i ≤ T := by omega
    clear hi
    have z0 := hbel.out.size
    have hlg := hown.out.lt'
    have hll : l ≤ 1310725 := by have := hl.out; have := pz_le (Asc.enc bs0) i; rw [HP.out] at this; omega
    by_cases hlt : i < T
    · obtain ⟨b, off, x, e, hbB, hx, hcx0⟩ := HRD.out.at (k := i) (by have := HT.out; omega)
      injection e with e
      injection e with e1 e2
      subst e1 e2
      have hcx : wr.cell? ⟨gt, 0 + i, none⟩ = some (.int .u8 (x.toNat : Int)) := (World.cell?_of_block (a := ⟨gt, 0 + i, none⟩) hblk.out).trans hcx0
      rw [Nat.zero_add] at hcx
      have hstp := pz_step hx
      have HSTP := Lib.hid hstp
      have hle := pz_le (Asc.enc bs0) (i + 1)
      rw [← hstp, HP.out, List.length_append] at hle
      clear hx hcx0 hstp
      by_cases hz : x.toNat = 122
      · have t1 : ((x.toNat : Int) == 122) = true := by rw [beq_iff_eq]; omega
        have hpz : Asc.pz x = [33, 33, 33, 33, 33] := by unfold Asc.pz; rw [if_pos hz]
        have HPZ := Lib.hid hpz
        have HZ := Lib.hid hz
        clear hpz hz
        go_wp2_with (at_builtin; refine wpList_append_str_at rfl _ _ 22 9 rfl Tryd.underlying22 Tryd.underlying9 w.heap.size g c _ l rfl hl.out hown.out _ rfl (by have := hl.out; show _ + 5 ≤ _; omega) z0 ?_; intro g' c' w2 h1 h2 h3; refine Hid.out ?_)
        refine Lib.hid ?_
        have he : plainTo (Asc.enc bs0) i ++ (({ data := #[33, 33, 33, 33, 33] } : ByteArray)).data.toList = plainTo (Asc.enc bs0) (i + 1) := by rw [← HSTP.out, HPZ.out]
        rw [he] at h1
        have hne2 : g' ≠ gt := by
          rcases h3 with rfl | rfl
          · exact hne
          · omega
        have bel2 : Below w.heap.size w w2 := hbel.out.grown h2 z0 (fun j hj => by injection hj with hj; subst hj; exact hlg.1)
        have F1 := Lib.hid h1
        have F2 : Hid (w2.heap[gt]? = w1.heap[gt]?) := (h2.block gt (by omega) (fun e => hne (by injection e with e; exact e.symm))).trans hblk.out
        have F3 := Lib.hid bel2
        have F4 := h2.size
        have FL : Hid ((plainTo (Asc.enc bs0) i).length + 5 = (plainTo (Asc.enc bs0) (i + 1)).length) := by show _ = _; rw [← he, List.length_append]; rfl
        clear h1 h2 h3 bel2 he hle
        go_wp2_with fail
        go_roundg (gk - 1)
        case measure => have := HI.out; omega
        case rel => exact ⟨i + 1, g', c', _, by have := HI.out; omega, by go_num, rfl, hne2, FL, F1, F2, F3, by omega⟩
      · have t1 : ((x.toNat : Int) == 122) = false := beq_eq_false_iff_ne.2 (by omega)
        have hpz : Asc.pz x = [x] := by unfold Asc.pz; rw [if_neg hz]
        have HPZ := Lib.hid hpz
        clear hpz hz
        go_wp2_with (at_builtin; refine wpList_append_bytes_at rfl _ _ 22 rfl Tryd.underlying22 w.heap.size g c _ [x] l 1 rfl hl.out (hown.out.alloc _) (wr.heap.size + 1) (some ⟨wr.heap.size, 0, none⟩) 1 rfl rfl (Rd.lit wr [x] _ (Nat.lt_succ_self _)) (by have := hl.out; simp only [List.length_singleton]; omega) (by simp; omega) ?_; intro g' c' w2 h1 h2 h3; refine Hid.out ?_)
        refine Lib.hid ?_
        have he : plainTo (Asc.enc bs0) i ++ [x] = plainTo (Asc.enc bs0) (i + 1) := by rw [← HSTP.out, HPZ.out]
        rw [he] at h1
        have hne2 : g' ≠ gt := by
          rcases h3 with rfl | rfl
          · exact hne
          · simp; omega
        have bel2 : Below w.heap.size w w2 := (hbel.out.alloc z0 _).grown h2 (by simp; omega) (fun j hj => by injection hj with hj; subst hj; exact hlg.1)
        have F1 := Lib.hid h1
        have F2 : Hid (w2.heap[gt]? = w1.heap[gt]?) := ((h2.block gt (by simp; omega) (fun e => hne (by injection e with e; exact e.symm))).trans (heap_alloc_old wr _ (by omega))).trans hblk.out
        have F3 := Lib.hid bel2
        have F4 := h2.size
        simp at F4
        have FL : Hid ((plainTo (Asc.enc bs0) i).length + 1 = (plainTo (Asc.enc bs0) (i + 1)).length) := by show _ = _; rw [← he, List.length_append]; rfl
        clear h1 h2 h3 bel2 he hle
        go_wp2_with fail
        go_roundg (gk - 1)
        case measure => have := HI.out; omega
        case rel => exact ⟨i + 1, g', c', _, by have := HI.out; omega, by go_num, rfl, hne2, FL, F1, F2, F3, by omega⟩
    · obtain rfl : i = T := by omega
      have hfull : plainTo (Asc.enc bs0) i = Asc.encP bs0 := by unfold plainTo; rw [List.take_of_length_le (by have := HT.out; omega), HP.out]
      rw [hfull] at hown hl
      obtain ⟨k, hk⟩ : ∃ k, k = n / 4 := ⟨_, rfl⟩
      have e4 : (n : Int) / 4 = (k : Int) := by omega
      have hk4 : 4 * k ≤ n := by omega
      have hg := Asc.groups_leP bs0
      have hdec := Asc.dec_allP (room := 4 * l + 8) (len := (Asc.encP bs0).length) bs0 0 0 [] (by have := hl.out; simp; omega)
      rw [List.nil_append, ← hl.out] at hdec
      have hdec' : Asc.dec (4 * l + 8) true (Asc.encP bs0).length (Asc.encP bs0) 0 0 0 0 [] = (bs0, l, none) := by rw [← hl.out]; exact hdec
      have HDEC := Lib.hid hdec'
      have hbw := hbel.out
      have HK := Lib.hid hk
      -- the first groups alone
      have htk : (bs0.take (4 * k)).length = 4 * k := by rw [List.length_take]; have := HN.out; omega
      have hsp : Asc.encP bs0 = Asc.encP (bs0.take (4 * k)) ++ Asc.encP (bs0.drop (4 * k)) := by
        have := Asc.encP_append k (bs0.take (4 * k)) (bs0.drop (4 * k)) htk
        rwa [List.take_append_drop] at this
      have h5k : (Asc.encP (bs0.take (4 * k))).length = 5 * k := Asc.encP_groups k _ htk
      have l5 : 5 * k ≤ l := by have := hl.out; rw [hsp, List.length_append, h5k] at this; omega
      have htake : (Asc.encP bs0).take (5 * k) = Asc.encP (bs0.take (4 * k)) := by rw [hsp, ← h5k, List.take_left]
      have hdec2 : Asc.dec (4 * (5 * k) + 8) false (Asc.encP (bs0.take (4 * k))).length (Asc.encP (bs0.take (4 * k))) 0 0 0 0 [] = (bs0.take (4 * k), 5 * k, none) := by
        rw [Asc.dec_groupsP k _ 0 0 [] htk (by simp; omega) (fun _ => rfl), Asc.dec]
        simp [Asc.fin]
      have HDEC2 := Lib.hid hdec2
      have HTAKE := Lib.hid htake
      have H5K := Lib.hid h5k
      have HTK := Lib.hid htk
      have e5 : (5 : Int) * (k : Int) = ((5 * k : Nat) : Int) := by omega
      have hown' : Own wr w.heap.size g c (Asc.encP bs0) := hown.out
      have hrdP := hown'.rd
      have hcap : l ≤ c ∧ c ≤ 9223372036854775807 := by
        rcases hown'.2 with ⟨e, _⟩ | ⟨g', c', cur, e, _, _, h1, h2, _⟩
        · cases e
        · injection e with _ _ e3
          subst e3
          exact ⟨by rw [hl.out]; exact h1, h2⟩
      obtain ⟨hc1, hc2⟩ := hcap
      have RDP := Lib.hid hrdP
      clear hdec hdec' hfull hg hsp h5k htk htake hdec2 hrdP hown' hlt hk
      go_wp2_with fail
      refine (whole_any (some ⟨g, 0, none⟩) l c (Asc.encP bs0) true wr hl.out RDP.out (by omega) bs0 l HDEC.out).mono ?_
      rintro e w2 ⟨g2, rfl, hu2, hol2, hge2, hrd2, hb2⟩
      rw [← HN.out] at hol2 ⊢
      obtain ⟨R, eR⟩ : ∃ R, R = 4 * l + 8 := ⟨_, rfl⟩
      rw [← eR] at hol2 ⊢
      have z2 := hb2.size
      have t3 : ((l : Int) != (l : Int)) = false := by simp
      obtain ⟨V, hV⟩ : ∃ V, w2.alloc (.cells #[.slice (some ⟨g2, 0, none⟩) n R, .int .i64 (l : Int), .int .i64 (-1)] 26) = V := ⟨_, rfl⟩
      have sV : V.heap.size = w2.heap.size + 1 := by subst hV; simp
      have bV : Below w2.heap.size w2 V := by subst hV; exact (Below.refl _ _).alloc (Nat.le_refl _) _
      have eV : V.heap[w2.heap.size]? = some (.cells #[.slice (some ⟨g2, 0, none⟩) n R, .int .i64 (l : Int), .int .i64 (-1)] 26 (0, 0)) := by subst hV; exact heap_alloc_new w2 _
      have v0 : V.cell? ⟨w2.heap.size, 0, none⟩ = some (.slice (some ⟨g2, 0, none⟩) n R) := by rw [cell_of_row V _ 0 _ _ _ eV]; rfl
      have v1 : V.cell? ⟨w2.heap.size, 1, none⟩ = some (.int .i64 (l : Int)) := by rw [cell_of_row V _ 1 _ _ _ eV]; rfl
      have v2 : V.cell? ⟨w2.heap.size, 2, none⟩ = some (.int .i64 (-1)) := by rw [cell_of_row V _ 2 _ _ _ eV]; rfl
      have bwV : Below w.heap.size w V := (hbw.trans (hb2.mono z0)).trans (bV.mono (by omega))
      clear eR eV
      go_wp2_with fail
      refine (same_any (some ⟨g2, 0, none⟩) A0 n n R c0 bs0 bs0 w2.heap.size w.heap.size V HN.out HN.out ((hrd2.below bV)) (rd0.below bwV) (by have := HN.out; omega) (by have := HN.out; omega)).mono ?_
      rintro e w3 ⟨rfl, q, rfl⟩
      rw [show decide (bs0 = bs0) = true by simp]
      have bw3 : Below w.heap.size w (V.drewN q) := below_drewN bwV q
      have rdV : Rd (V.drewN q) (V.drewN q).heap.size (some ⟨g, 0, none⟩) (Asc.encP bs0) := (((RDP.out.below hb2).mono z2).below bV).mono (by show _ ≤ V.heap.size; omega)
      have rdV2 := rdV.take (5 * k)
      rw [HTAKE.out] at rdV2
      obtain ⟨W3, hW3⟩ : ∃ W, V.drewN q = W := ⟨_, rfl⟩
      rw [hW3] at bw3 rdV2 ⊢
      have RDV2 := Lib.hid rdV2
      have t5 : decide ((l : Int) < ((5 * k : Nat) : Int)) = false := by simp; omega
      have t6 : ((5 * k : Nat) : Int) ≤ (c : Int) := by omega
      clear hW3 rdV rdV2 v0 v1 v2 hV bwV hrd2 hb2
      obtain ⟨k5, ek5⟩ : ∃ k5, k5 = 5 * k := ⟨_, rfl⟩
      rw [← ek5] at e5 t5 t6
      have EK5 := Lib.hid ek5
      have z3 := bw3.size
      have lk5 : k5 ≤ 1310725 := by omega
      clear ek5
      go_wp2_with fail
      refine (whole_any (some ⟨g, 0, none⟩) k5 c (Asc.encP (bs0.take (4 * k))) false W3 (by rw [EK5.out]; exact H5K.out.symm) RDV2.out (by omega) (bs0.take (4 * k)) k5 (by rw [EK5.out]; exact HDEC2.out)).mono ?_
      rintro e w4 ⟨g4, rfl, hu4, hol4, hge4, hrd4, hb4⟩
      obtain ⟨lk, elk⟩ : ∃ lk, lk = (bs0.take (4 * k)).length := ⟨_, rfl⟩
      rw [← elk] at hol4 ⊢
      have e4k : (4 : Int) * (k : Int) = (lk : Int) := by rw [elk, HTK.out]; omega
      have elk4 : lk = 4 * k := by rw [elk]; exact HTK.out
      have ELK := Lib.hid elk
      have lkn : lk ≤ n := by omega
      have t7 : (0 : Int) ≤ (lk : Int) := by omega
      have t8 : (lk : Int) ≤ (c0 : Int) := by omega
      obtain ⟨R4, eR4⟩ : ∃ R, R = 4 * k5 + 8 := ⟨_, rfl⟩
      rw [← eR4] at hol4 ⊢
      have bw4 : Below w.heap.size w w4 := bw3.trans (hb4.mono z3)
      have z4 := bw4.size
      obtain ⟨V4, hV4⟩ : ∃ V, w4.alloc (.cells #[.slice (some ⟨g4, 0, none⟩) lk R4, .int .i64 (k5 : Int), .int .i64 (-1)] 26) = V := ⟨_, rfl⟩
      have eV4 : V4.heap[w4.heap.size]? = some (.cells #[.slice (some ⟨g4, 0, none⟩) lk R4, .int .i64 (k5 : Int), .int .i64 (-1)] 26 (0, 0)) := by subst hV4; exact heap_alloc_new w4 _
      have x0 : V4.cell? ⟨w4.heap.size, 0, none⟩ = some (.slice (some ⟨g4, 0, none⟩) lk R4) := by rw [cell_of_row V4 _ 0 _ _ _ eV4]; rfl
      have x1 : V4.cell? ⟨w4.heap.size, 1, none⟩ = some (.int .i64 (k5 : Int)) := by rw [cell_of_row V4 _ 1 _ _ _ eV4]; rfl
      have x2 : V4.cell? ⟨w4.heap.size, 2, none⟩ = some (.int .i64 (-1)) := by rw [cell_of_row V4 _ 2 _ _ _ eV4]; rfl
      have bV4 : Below w4.heap.size w4 V4 := by subst hV4; exact (Below.refl _ _).alloc (Nat.le_refl _) _
      have bwV4 : Below w.heap.size w V4 := bw4.trans (bV4.mono z4)
      have r1 : Rd V4 w4.heap.size (some ⟨g4, 0, none⟩) (bs0.take (4 * k)) := hrd4.below bV4
      have r2 : Rd V4 w.heap.size A0 (bs0.take (4 * k)) := (rd0.below bwV4).take (4 * k)
      have t9 : ((k5 : Int) == (k5 : Int)) = true := by simp
      have HSM : Hid (∀ q, Calls Tryd.prog 11 #[.slice (some ⟨g4, 0, none⟩) lk R4, .slice A0 lk c0] (V4.drewN q) fun e w' => e = .returned (.bool true) ∧ ∃ m, w' = (V4.drewN q).drewN m) := fun q => by
        have h := same_any (some ⟨g4, 0, none⟩) A0 lk lk R4 c0 (bs0.take (4 * k)) (bs0.take (4 * k)) w4.heap.size w.heap.size (V4.drewN q) ELK.out ELK.out (r1.drewN q) (r2.drewN q) (by rw [← ELK.out]; omega) (by rw [← ELK.out]; omega)
        rw [show decide (bs0.take (4 * k) = bs0.take (4 * k)) = true by simp] at h
        exact h
      clear elk elk4 eR4 eV4 hrd4 hb4 r1 r2
      go_wp2_with fail
      go_quiet ((go_at_call 11; exact Calls.quiet_of (HSM.out _)))
      go_wp2_with fail
      go_ret
      exact ⟨rfl, below_drewN bwV4 _⟩

end Go.Proofs.YtmddbfcghddacaaDoor

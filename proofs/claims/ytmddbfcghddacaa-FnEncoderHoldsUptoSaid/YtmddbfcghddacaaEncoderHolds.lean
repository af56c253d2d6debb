/-
  FnEncoderHolds: behind each write an encoder has written the text of the whole groups of four bytes that it was given, and behind Close the text of all. Condition: the lengths' bounds.
-/
import Derived.Test.YtmddbfcghddacaaEncoderGrows
import Derived.Test.YtmddbfcghddacaaImp
import Derived.Deep.RegionHeld3
namespace Go.Proofs.Ytmddbfcghddacaa
open Go.RowKit
set_option linter.unusedVariables false

/-- the rows as texts of beginnings -/
def begs (bs : List UInt8) : Nat → List Int → List (List UInt8)
  | _, [] => [encG bs]
  | a, z :: r => encG (bs.take (a + min z.toNat (bs.length - a))) :: begs bs (a + min z.toNat (bs.length - a)) r

theorem begs_eq (bs : List UInt8) (zs : List Int) (a : Nat) (ha : a ≤ bs.length) : sumsFrom encG (bs.take a) (pcs (bs.drop a) zs) = begs bs a zs := by
  induction zs generalizing a with
  | nil => rw [pcs, sumsFrom, sumsFrom, begs, List.take_append_drop]
  | cons z r ih =>
    have hq := pcs_step (bs.drop a) z r (min z.toNat (bs.length - a)) (by rw [List.length_drop])
    rw [hq, sumsFrom, begs, ← List.take_add, List.drop_drop, ih _ (by omega)]

/-- the place behind the first i cuts -/
def place (len : Nat) : List Int → Nat → Nat → Nat
  | [], _, a => a
  | _, 0, a => a
  | z :: r, i + 1, a => place len r i (a + min z.toNat (len - a))

theorem place_zero (len : Nat) (zs : List Int) (a : Nat) : place len zs 0 a = a := by cases zs <;> rfl
theorem place_le (len : Nat) (zs : List Int) (i a : Nat) (h : a ≤ len) : place len zs i a ≤ len := by
  induction zs generalizing i a with
  | nil => exact h
  | cons z r ih =>
    cases i with
    | zero => exact h
    | succ i => exact ih i _ (by omega)
theorem place_succ (len : Nat) (zs : List Int) (i a : Nat) (z : Int) (hz : zs[i]? = some z) : place len zs (i + 1) a = place len zs i a + min z.toNat (len - place len zs i a) := by
  induction zs generalizing i a with
  | nil => simp at hz
  | cons y r ih =>
    cases i with
    | zero => simp at hz; subst hz; show place len r 0 _ = place len (y :: r) 0 a + min y.toNat (len - place len (y :: r) 0 a); rw [place_zero, place_zero]
    | succ i => rw [List.getElem?_cons_succ] at hz; exact ih i _ hz
theorem begs_get (bs : List UInt8) (zs : List Int) (a i : Nat) (hi : i < zs.length) : (begs bs a zs)[i]? = some (encG (bs.take (place bs.length zs (i + 1) a))) := by
  induction zs generalizing i a with
  | nil => simp at hi
  | cons z r ih =>
    cases i with
    | zero => rw [begs, List.getElem?_cons_zero, place, place_zero]
    | succ i => rw [begs, List.getElem?_cons_succ, ih _ i (by simpa using hi)]; rfl
theorem begs_last (bs : List UInt8) (zs : List Int) (a : Nat) : (begs bs a zs)[zs.length]? = some (encG bs) := by
  induction zs generalizing a with
  | nil => rfl
  | cons z r ih => rw [begs, List.length_cons, List.getElem?_cons_succ]; exact ih _
theorem begs_len (bs : List UInt8) (zs : List Int) (a : Nat) : (begs bs a zs).length = zs.length + 1 := by
  induction zs generalizing a with
  | nil => rfl
  | cons z r ih => rw [begs, List.length_cons, ih, List.length_cons]

theorem encG_take (bs : List UInt8) (a k : Nat) (ha : a ≤ bs.length) (hk : k = a / 4 * 4) : encG (bs.take a) = Asc.enc (bs.take k) := by
  unfold encG
  rw [List.length_take, List.take_take]
  congr 2
  omega

/-- Encode of a beginning, beside a row's cell -/
theorem holds_enc (w1 wr : World) (hb : Below w1.heap.size w1 wr) (A0 : Option Addr) (k c : Nat) (bs : List UInt8) (B : Nat) (rd : Rd wr wr.heap.size A0 bs) (hk : k = bs.length) (hl : k ≤ 1048576) (p : Addr) (hp : p.block < w1.heap.size) (v : Value) (hv : w1.cell? p = some v) (le : Nat) (hle : le = (Asc.enc bs).length) :
    Calls Try.prog 9 #[.slice A0 k c] wr.drew fun e w' => ∃ g d, e = .returned (.slice (some ⟨g, 0, none⟩) le d) ∧ w'.cell? p = some v ∧ Hid (Rd w' w'.heap.size (some ⟨g, 0, none⟩) (Asc.enc bs) ∧ Below w1.heap.size w1 w') := by
  subst hle
  refine (impl_encode A0 k c bs wr.drew hk rd (by omega)).mono ?_
  rintro e w' ⟨g, d, rfl, _, _, _, _, hr, hb'⟩
  have hbw : Below w1.heap.size w1 w' := hb.trans ⟨hb'.os, hb'.tape, hb'.output, hb'.size, fun k hk => hb'.block k (Nat.lt_of_lt_of_le hk hb.size)⟩
  exact ⟨g, d, rfl, (hbw.cell hp).trans hv, hr, hbw⟩
theorem holds_same (w1 : World) (gi li di : Nat) (x y : List UInt8) (hr1 : Rd w1 w1.heap.size (some ⟨gi, 0, none⟩) x) (hxy : x = y) (hli : li = x.length) (hl : li ≤ 4000000) (p : Addr) (hp : p.block < w1.heap.size) (v : Value) (hv : w1.cell? p = some v) (le : Nat) (hle : le = y.length) :
    ∀ (g d : Nat) (W : World), Hid (Rd W W.heap.size (some ⟨g, 0, none⟩) y ∧ Below w1.heap.size w1 W) → Calls Try.prog 7 #[.slice (some ⟨gi, 0, none⟩) li di, .slice (some ⟨g, 0, none⟩) le d] W fun e w' => e = .returned (.bool true) ∧ w'.cell? p = some v ∧ Hid (Below w1.heap.size w1 w') := by
  intro g d W h
  subst hxy
  refine (same_any (some ⟨gi, 0, none⟩) (some ⟨g, 0, none⟩) li le di d x x w1.heap.size W.heap.size W hli hle (hr1.below h.out.2) h.out.1 (by omega) (by omega)).mono ?_
  rintro e w' ⟨rfl, k, rfl⟩
  refine ⟨by rw [decide_eq_true rfl], (h.out.2.cell hp).trans hv, ⟨h.out.2.os, h.out.2.tape, h.out.2.output, h.out.2.size, h.out.2.block⟩⟩

set_option maxRecDepth 100000 in
set_option maxHeartbeats 4000000 in
theorem encoderHolds_walk (A0 : Option Addr) (c0 : Nat) (bs0 : List UInt8) (A1 : Option Addr) (c1 : Nat) (zs1 : List Int) (w : World) (rd0 : Rd w w.heap.size A0 bs0) (lc0 : bs0.length ≤ c0) (lm0 : c0 ≤ 1048576) (rd1 : RdI w w.heap.size A1 zs1) (lc1 : zs1.length ≤ c1) (lm1 : c1 ≤ 1048576) :
    Calls Try.prog 5 #[.slice A0 bs0.length c0, .slice A1 zs1.length c1] w fun e w' => e = .returned (.bool true) ∧ Below w.heap.size w w' := by
  obtain ⟨n, hn⟩ : ∃ n, n = bs0.length := ⟨_, rfl⟩
  obtain ⟨m, hm⟩ : ∃ m, m = zs1.length := ⟨_, rfl⟩
  rw [← hn] at lc0 ⊢
  rw [← hm] at lc1 ⊢
  have HN := Lib.hid hn
  have HM := Lib.hid hm
  have HRI := Lib.hid rd1
  clear hn hm
  go_enter Try.func5, Try.ntmps5
  go_wp2_with fail
  refine (encodeStream_any A0 n c0 bs0 A1 m c1 zs1 w HN.out rd0 lc0 lm0 HM.out rd1 (by omega)).mono ?_
  rintro e w1 ⟨G, D, vs, rfl, hvl, hd1, hd2, hO, hP, hb1⟩
  obtain ⟨rs, hrs⟩ : ∃ rs, rs = begs bs0 0 zs1 ++ [Asc.enc bs0] := ⟨_, rfl⟩
  have hbe := begs_eq bs0 zs1 0 (by omega)
  rw [List.take_zero, List.drop_zero] at hbe
  rw [hbe, ← hrs] at hP
  have hr1 : ∀ i, i < m → rs[i]? = some (encG (bs0.take (place bs0.length zs1 (i + 1) 0))) := fun i hi => by
    rw [hrs, List.getElem?_append_left (by rw [begs_len]; have := HM.out; omega)]
    exact begs_get bs0 zs1 0 i (by have := HM.out; omega)
  have hr2 : rs[m]? = some (encG bs0) := by
    rw [hrs, List.getElem?_append_left (by rw [begs_len]; have := HM.out; omega), HM.out]
    exact begs_last bs0 zs1 0
  have hr3 : rs[m + 1]? = some (Asc.enc bs0) := by
    rw [hrs, List.getElem?_append_right (by rw [begs_len]; have := HM.out; omega), begs_len, ← HM.out, Nat.sub_self]
    rfl
  obtain ⟨L, hL⟩ : ∃ L, L = m + 2 := ⟨_, rfl⟩
  rw [← hL] at hvl hd1 ⊢
  have tL : (((L : Nat) : Int) != (m : Int) + 2) = false := by simp; omega
  have HR1 := Lib.hid hr1
  have HR2 := Lib.hid hr2
  have HR3 := Lib.hid hr3
  have HO := Lib.hid hO
  have HP := Lib.hid hP
  have HVL := Lib.hid hvl
  have HL := Lib.hid hL
  have hd2' : D ≤ 9223372036854775807 := hd2
  have hmb : m ≤ 1048576 := by omega
  have hGl := hO.lt'.2
  have z1 := hb1.size
  clear hr1 hr2 hr3 hO hP hvl hrs hL hd2 hbe rd1
  go_wp2_with fail
  go_loopg [6, 7] (m + 1) (fun gk av iv wr => ∃ i a : Nat, i + gk = m + 1 ∧ iv = .int .i64 (i : Int) ∧ av = .int .i64 (a : Int) ∧ a ≤ n ∧ Hid (i ≤ m → a = place bs0.length zs1 i 0) ∧ Hid (Below w1.heap.size w1 wr))
  case atStart => exact ⟨0, 0, by omega, rfl, rfl, by omega, fun _ => (place_zero _ _ _).symm, Below.refl _ _⟩
  case round =>
    obtain ⟨i, a, hi, rfl, rfl, han, HA, HB⟩ := hrel
    have HI := Lib.hid hi
    have him : i ≤ m + 1 := by omega
    clear hi
    have zr := HB.out.size
    by_cases hlt : i ≤ m
    · have t0 : (i : Int) ≤ (m : Int) := by omega
      obtain ⟨a', ha'⟩ : ∃ a', a' = if i < m then place bs0.length zs1 (i + 1) 0 else n := ⟨_, rfl⟩
      have ha'n : a' ≤ n := by
        rw [ha']
        split
        · have := place_le bs0.length zs1 (i + 1) 0 (by omega); have := HN.out; omega
        · omega
      have hrow : rs[i]? = some (encG (bs0.take a')) := by
        by_cases h : i < m
        · rw [ha', if_pos h]; exact HR1.out i h
        · obtain rfl : i = m := by omega
          rw [ha', if_neg h, HN.out, List.take_of_length_le (Nat.le_refl _)]; exact HR2.out
      obtain ⟨q4, eq4⟩ : ∃ q4, q4 = a' / 4 := ⟨_, rfl⟩
      obtain ⟨k4, ek4⟩ : ∃ k4, k4 = q4 * 4 := ⟨_, rfl⟩
      have hk4n : k4 ≤ n := by omega
      rw [encG_take bs0 a' k4 (by have := HN.out; omega) (by omega)] at hrow
      have u1 : (a' : Int) / 4 = (q4 : Int) := by omega
      have u2 : (q4 : Int) * 4 = (k4 : Int) := by omega
      obtain ⟨v, hv⟩ : ∃ v, vs[i]? = some v := ⟨_, List.getElem?_eq_getElem (by have := HVL.out; have := HL.out; omega)⟩
      have pc := HP.out.2 i v _ hv hrow
      obtain ⟨gi, di, cs, e1, _, _, q1, q1', _⟩ := id pc
      subst e1
      have hvc : w1.cell? ⟨G, i, none⟩ = some _ := HO.out.cell hv
      have hlk : k4 = (bs0.take k4).length := by rw [List.length_take]; have := HN.out; omega
      obtain ⟨le, hle⟩ : ∃ le, le = (Asc.enc (bs0.take k4)).length := ⟨_, rfl⟩
      rw [← hle] at hvc q1
      have hleb : le ≤ 4000000 := by rw [hle]; have := Asc.enc_len (bs0.take k4); omega
      have C1 := Lib.hid (holds_enc w1 wr HB.out A0 k4 c0 (bs0.take k4) 0 (((rd0.below (hb1.trans (HB.out.mono z1))).take k4).mono (by omega)) hlk (by omega) ⟨G, i, none⟩ hGl _ hvc le hle)
      have C2 := Lib.hid (holds_same w1 gi le di (Asc.enc (bs0.take k4)) (Asc.enc (bs0.take k4)) pc.rd rfl hle hleb ⟨G, i, none⟩ hGl _ hvc le hle)
      have hvr : wr.cell? ⟨G, i, none⟩ = some (.slice (some ⟨gi, 0, none⟩) le di) := (HB.out.cell hGl).trans hvc
      have HA' := Lib.hid ha'
      clear hrow hv pc hvc hlk hle ha' eq4 ek4
      go_upto_if 26 with (fail)
      go_cut [6] from 17 to 52 (fun x wc => x = .int .i64 (a' : Int) ∧ wc = wr)
      case first =>
        by_cases him' : i < m
        · have hpa : a' = a + min ((zs1[i]?).getD 0).toNat (n - a) := by
            have hil : i < zs1.length := by have := HM.out; omega
            have h1 := place_succ bs0.length zs1 i 0 zs1[i] (List.getElem?_eq_getElem hil)
            rw [← HA.out hlt, ← HN.out] at h1
            rw [HA'.out, if_pos him', ← HN.out, List.getElem?_eq_getElem hil]
            exact h1
          obtain ⟨b, off, z, rfl, hb, hz, hcz⟩ : ∃ b off z, A1 = some ⟨b, off, none⟩ ∧ b < w.heap.size ∧ zs1[i]? = some z ∧ w.cell? ⟨b, off + i, none⟩ = some (.int .i64 z) := by
            have hil : i < zs1.length := by have := HM.out; omega
            rcases HRI.out.2 with e | ⟨b, off, e, hb, hc⟩
            · rw [e] at hil; simp at hil
            · exact ⟨b, off, zs1[i], e, hb, List.getElem?_eq_getElem hil, hc i _ (List.getElem?_eq_getElem hil)⟩
          have hcz' : wr.cell? ⟨b, off + i, none⟩ = some (.int .i64 z) := ((hb1.trans (HB.out.mono z1)).cell (p := ⟨b, off + i, none⟩) hb).trans hcz
          have hzb := HRI.out.1 z (List.mem_of_getElem? hz)
          rw [hz, Option.getD_some] at hpa
          have t5 : (i : Int) < (m : Int) := by omega
          clear hcz hz
          go_wp2_with fail
          all_goals go_meet
          all_goals (refine ⟨?_, rfl⟩; congr 1; omega)
        · have hpa : a' = n := by rw [HA'.out, if_neg him']
          have t5 : ¬ (i : Int) < (m : Int) := by omega
          go_wp2_with fail
          go_meet
          exact ⟨by rw [hpa], rfl⟩
      case rest =>
        obtain ⟨rfl, rfl⟩ := hcut
        have b1 : (0 : Int) ≤ (i : Int) := by omega
        have b2 : (i : Int) < (L : Int) := by have := HL.out; omega
        have hs := fun W => slice_hi A0 n c0 k4 (by omega) W
        have b3 : (0 : Int) ≤ (k4 : Int) := by omega
        have b4 : (k4 : Int) ≤ (c0 : Int) := by omega
        have o1 : (a' : Int).tdiv 4 = (q4 : Int) := by rw [Int.tdiv_eq_ediv_of_nonneg (by omega)]; exact u1
        have o2 : IntKind.i64.wrap (q4 : Int) = (q4 : Int) := by rw [IntKind.wrap_i64]; omega
        have o4 : IntKind.i64.wrap (k4 : Int) = (k4 : Int) := by rw [IntKind.wrap_i64]; omega
        go_wp2_with fail
        go_region_held3 (fun w' => w'.cell? ⟨G, i, none⟩ = some (.slice (some ⟨gi, 0, none⟩) le di)) (first | go_keep | assumption) (first
          | (go_at_call 9; refine C1.out.mono ?_; rintro e w2 ⟨g2, d2, rfl, k2, h2⟩)
          | (go_at_call 7; refine (C2.out _ _ _ (by assumption)).mono ?_; rintro e w3 ⟨rfl, k3, h3⟩))
        go_wp2_with fail
        go_roundg (gk - 1)
        case measure => have := HI.out; omega
        case rel =>
          refine ⟨i + 1, a', by have := HI.out; omega, by go_num, rfl, ha'n, fun h => ?_, h3⟩
          rw [HA'.out, if_pos (by omega)]
    · obtain rfl : i = m + 1 := by omega
      obtain ⟨j, hj⟩ : ∃ j, j = m + 1 := ⟨_, rfl⟩
      have HJ := Lib.hid hj
      have hrow := HR3.out
      rw [← hj] at hrow
      obtain ⟨v, hv⟩ : ∃ v, vs[j]? = some v := ⟨_, List.getElem?_eq_getElem (by have := HVL.out; have := HL.out; omega)⟩
      have pc := HP.out.2 j v _ hv hrow
      obtain ⟨gi, di, cs, e1, _, _, q1, q1', _⟩ := id pc
      subst e1
      have hvc : w1.cell? ⟨G, j, none⟩ = some _ := HO.out.cell hv
      obtain ⟨le, hle⟩ : ∃ le, le = (Asc.enc bs0).length := ⟨_, rfl⟩
      rw [← hle] at hvc q1
      have hleb : le ≤ 4000000 := by rw [hle]; have := Asc.enc_len bs0; have := HN.out; omega
      have C1 := Lib.hid (holds_enc w1 wr HB.out A0 n c0 bs0 0 ((rd0.below (hb1.trans (HB.out.mono z1))).mono (by omega)) HN.out (by omega) ⟨G, j, none⟩ hGl _ hvc le hle)
      have C2 := Lib.hid (holds_same w1 gi le di (Asc.enc bs0) (Asc.enc bs0) pc.rd rfl hle hleb ⟨G, j, none⟩ hGl _ hvc le hle)
      have hvr : wr.cell? ⟨G, j, none⟩ = some (.slice (some ⟨gi, 0, none⟩) le di) := (HB.out.cell hGl).trans hvc
      have t0 : ¬ (((m + 1 : Nat) : Int) ≤ (m : Int)) := by omega
      have o1 : IntKind.i64.wrap ((m : Int) + 1) = (j : Int) := by rw [IntKind.wrap_i64]; omega
      have b1 : (0 : Int) ≤ (j : Int) := by omega
      have b2 : (j : Int) < (L : Int) := by have := HL.out; omega
      clear hrow hv pc hvc hle hj
      go_wp2_with fail
      go_region_held3 (fun w' => w'.cell? ⟨G, j, none⟩ = some (.slice (some ⟨gi, 0, none⟩) le di)) (first | go_keep | assumption) (first
        | (go_at_call 9; refine C1.out.mono ?_; rintro e w2 ⟨g2, d2, rfl, k2, h2⟩)
        | (go_at_call 7; refine (C2.out _ _ _ (by assumption)).mono ?_; rintro e w3 ⟨rfl, k3, h3⟩))
      go_wp2_with fail
      go_ret
      exact ⟨rfl, hb1.trans (h3.out.mono z1)⟩

end Go.Proofs.Ytmddbfcghddacaa

/-
  FnAdlerLeap: a byte that is one more, the next one two less and the one behind it one more leave the sum as it is, for every list of bytes and every place. No condition.
-/
import Derived.Test.YtaplmdbcjckbkaaAdlerSwapped
import Derived.Test.YtaplmdbcjckbkaaSame
namespace Go.Proofs.Ytaplmdbcjckbkaa
open Go.RowKit

def leap (bs : List UInt8) (i : Nat) (x y z : UInt8) : List UInt8 := ((bs.set i x).set (i + 1) y).set (i + 2) z

theorem Adl.leap_ab (bs : List UInt8) (i : Nat) (x y z x' y' z' : UInt8) (hx : bs[i]? = some x) (hy : bs[i + 1]? = some y) (hz : bs[i + 2]? = some z)
    (ex : x'.toNat = x.toNat + 1) (ey : y.toNat = y'.toNat + 2) (ez : z'.toNat = z.toNat + 1) :
    Adl.a (leap bs i x' y' z') = Adl.a bs ∧ Adl.b (leap bs i x' y' z') = Adl.b bs ∧ leap bs i x' y' z' ≠ bs := by
  have hl : i + 2 < bs.length := (List.getElem?_eq_some_iff.1 hz).1
  have hy' : (bs.set i x')[i + 1]? = some y := by rw [List.getElem?_set_ne (by omega)]; exact hy
  have hz' : ((bs.set i x').set (i + 1) y')[i + 2]? = some z := by rw [List.getElem?_set_ne (by omega), List.getElem?_set_ne (by omega)]; exact hz
  have s1 := Adl.sm_set bs i x x' hx
  have s2 := Adl.sm_set _ (i + 1) y y' hy'
  have s3 := Adl.sm_set _ (i + 2) z z' hz'
  have w1 := Adl.ws_set bs i x x' hx
  have w2 := Adl.ws_set _ (i + 1) y y' hy'
  have w3 := Adl.ws_set _ (i + 2) z z' hz'
  have hlen : (leap bs i x' y' z').length = bs.length := by simp [leap]
  simp only [List.length_set] at w2 w3
  obtain ⟨u, hu⟩ : ∃ u, bs.length = i + 2 + u := ⟨bs.length - (i + 2), by omega⟩
  have u1 : bs.length - i = u + 2 := by omega
  have u2 : bs.length - (i + 1) = u + 1 := by omega
  have u3 : bs.length - (i + 2) = u := by omega
  rw [u1, ex] at w1
  rw [u2, ey] at w2
  rw [u3, ez] at w3
  simp only [Nat.mul_add, Nat.add_mul, Nat.mul_one, Nat.one_mul] at w1 w2 w3
  have hsm : Adl.sm (leap bs i x' y' z') = Adl.sm bs := by unfold leap; omega
  have hws : Adl.ws (leap bs i x' y' z') = Adl.ws bs := by unfold leap; omega
  refine ⟨by unfold Adl.a; rw [hsm], by unfold Adl.b; rw [hlen, hws], fun e => ?_⟩
  have h0 : (leap bs i x' y' z')[i]? = some x' := by
    unfold leap
    rw [List.getElem?_set_ne (by omega), List.getElem?_set_ne (by omega), List.getElem?_set_self (by omega)]
  rw [e, hx] at h0
  have := Option.some.inj h0
  subst this
  omega

theorem u8_of_nat (m : Nat) (h : m < 256) : ∃ x : UInt8, x.toNat = m := ⟨UInt8.ofNat m, by rw [UInt8.toNat_ofNat']; omega⟩

theorem Own.set' {w : World} {base g c : Nat} {bs : List UInt8} (h : Own w base g c bs) (i : Nat) (x : UInt8) (v : Int) (hv : (x.toNat : Int) = v) : Own (w.setCell ⟨g, i, none⟩ (.int .u8 v)) base g c (bs.set i x) := by
  subst hv
  exact h.set i x

set_option maxRecDepth 100000 in
set_option maxHeartbeats 2000000 in
theorem adlerLeap_walk (A0 : Option Addr) (c0 : Nat) (bs0 : List UInt8) (a1 : Int) (w : World) (rd0 : Rd w w.heap.size A0 bs0) (lc0 : bs0.length ≤ c0) (lm0 : c0 ≤ 140737488351232) (b1 : -9223372036854775808 ≤ a1 ∧ a1 ≤ 9223372036854775807) :
    Calls Try.prog 5 #[.slice A0 bs0.length c0, .int .i64 a1] w fun e w' => e = .returned (.bool true) ∧ Below w.heap.size w w' := by
  obtain ⟨n, hn⟩ : ∃ n, n = bs0.length := ⟨_, rfl⟩
  rw [← hn] at lc0 ⊢
  have HN := Lib.hid hn
  clear hn
  by_cases h0 : a1 < 0
  · go_enter Try.func5, Try.ntmps5
    go_wp2
    go_ret
    exact ⟨rfl, Below.refl _ _⟩
  have d1 : decide (a1 < 0) = false := decide_eq_false h0
  by_cases h1 : (n : Int) - 2 ≤ a1
  · go_enter Try.func5, Try.ntmps5
    go_wp2
    go_ret
    exact ⟨rfl, Below.refl _ _⟩
  have d2 : decide ((n : Int) - 2 ≤ a1) = false := decide_eq_false h1
  obtain ⟨i, rfl⟩ := Int.eq_ofNat_of_zero_le (show 0 ≤ a1 by omega)
  have hin : i + 2 < n := by omega
  clear h0 h1 b1
  obtain ⟨b, off, x, rfl, hb, hx, hcx⟩ := rd0.at (k := i) (by have := HN.out; omega)
  have hall : ∀ j v, bs0[j]? = some v → w.cell? ⟨b, off + j, none⟩ = some (.int .u8 (v.toNat : Int)) := by
    rcases rd0 with e | ⟨b', off', e, _, hc⟩
    · rw [e] at hx; cases hx
    · injection e with e; injection e with e1 e2; subst e1; subst e2; exact hc
  obtain ⟨y, hy⟩ : ∃ y, bs0[i + 1]? = some y := ⟨_, List.getElem?_eq_getElem (by have := HN.out; omega)⟩
  obtain ⟨z, hz⟩ : ∃ z, bs0[i + 2]? = some z := ⟨_, List.getElem?_eq_getElem (by have := HN.out; omega)⟩
  have hcy := hall _ y hy
  have hcz := hall _ z hz
  have hx0 := x.toNat_lt
  have hy0 := y.toNat_lt
  have hz0 := z.toNat_lt
  have HX := Lib.hid hx
  have HY := Lib.hid hy
  have HZ := Lib.hid hz
  have HALL := Lib.hid hall
  have i0 : (0 : Int) ≤ (i : Int) := by omega
  have i1 : (i : Int) < (n : Int) := by omega
  have i2 : (i : Int) + 1 < (n : Int) := by omega
  have i3 : (i : Int) + 2 < (n : Int) := by omega
  have j1 : ((i : Int) + 1).toNat = i + 1 := by omega
  have j2 : ((i : Int) + 2).toNat = i + 2 := by omega
  clear hx hy hz hall
  by_cases t1 : x.toNat = 255
  · have d3 : ((x.toNat : Int) == 255) = true := by rw [beq_iff_eq]; omega
    have T := Lib.hid t1
    clear t1
    go_enter Try.func5, Try.ntmps5
    go_wp2
    go_ret
    exact ⟨rfl, Below.refl _ _⟩
  have d3 : ((x.toNat : Int) == 255) = false := by rw [beq_eq_false_iff_ne]; omega
  by_cases t2 : y.toNat < 2
  · go_enter Try.func5, Try.ntmps5
    go_wp2
    go_ret
    exact ⟨rfl, Below.refl _ _⟩
  have d4 : decide ((y.toNat : Int) < 2) = false := decide_eq_false (by omega)
  by_cases t3 : z.toNat = 255
  · have d5 : ((z.toNat : Int) == 255) = true := by rw [beq_iff_eq]; omega
    have T := Lib.hid t3
    clear t3
    go_enter Try.func5, Try.ntmps5
    go_wp2
    go_ret
    exact ⟨rfl, Below.refl _ _⟩
  have d5 : ((z.toNat : Int) == 255) = false := by rw [beq_eq_false_iff_ne]; omega
  obtain ⟨x', ex⟩ := u8_of_nat (x.toNat + 1) (by omega)
  obtain ⟨y', ey⟩ := u8_of_nat (y.toNat - 2) (by omega)
  obtain ⟨z', ez⟩ := u8_of_nat (z.toNat + 1) (by omega)
  obtain ⟨e1, e2, e3⟩ := Adl.leap_ab bs0 i x y z x' y' z' HX.out HY.out HZ.out ex (by omega) ez
  have EX := Lib.hid (show (x'.toNat : Int) = (x.toNat : Int) + 1 by omega)
  have EY := Lib.hid (show (y'.toNat : Int) = (y.toNat : Int) - 2 by omega)
  have EZ := Lib.hid (show (z'.toNat : Int) = (z.toNat : Int) + 1 by omega)
  have E1 := Lib.hid e1
  have E2 := Lib.hid e2
  have E3 := Lib.hid e3
  have s1 : x.toNat ≤ 254 := by omega
  have s2 : 2 ≤ y.toNat := by omega
  have s3 : z.toNat ≤ 254 := by omega
  clear e1 e2 e3 ex ey ez t1 t2 t3
  go_enter Try.func5, Try.ntmps5
  go_wp2_with (at_builtin; refine wpList_append_bytes rfl _ _ 22 rfl Try.underlying22 w.heap.size w.heap.size 0 [] bs0 0 n rfl rfl (Own.empty w _ (Nat.le_refl _)) w.heap.size _ c0 rfl HN.out (rd0.alloc (Nat.le_refl _) _) (by have := HN.out; simp only [List.length_nil]; omega) (by simp) ?_; intro g c w1 h1 h2; refine Hid.out ?_)
  refine Lib.hid ?_
  simp only [List.nil_append] at h1
  have bw1 : Below w.heap.size w w1 := ((Below.refl _ _).alloc (Nat.le_refl _) _).grown h2 (by simp) (by simp)
  have z1 := bw1.size
  have hlen := HN.out
  have hgB := h1.lt'.1
  have cx : w1.cell? ⟨b, off + i, none⟩ = some (.int .u8 (x.toNat : Int)) := (bw1.cell hb).trans hcx
  have cy : w1.cell? ⟨b, off + (i + 1), none⟩ = some (.int .u8 (y.toNat : Int)) := (bw1.cell hb).trans hcy
  have cz : w1.cell? ⟨b, off + (i + 2), none⟩ = some (.int .u8 (z.toNat : Int)) := (bw1.cell hb).trans hcz
  have ci : w1.cell? ⟨g, i, none⟩ = some (.int .u8 (x.toNat : Int)) := by rw [World.ownsRow.cellAt h1 i (by omega)]; simp [HX.out, bv]
  have cj : w1.cell? ⟨g, i + 1, none⟩ = some (.int .u8 (y.toNat : Int)) := by rw [World.ownsRow.cellAt h1 (i + 1) (by omega)]; simp [HY.out, bv]
  have ck : w1.cell? ⟨g, i + 2, none⟩ = some (.int .u8 (z.toNat : Int)) := by rw [World.ownsRow.cellAt h1 (i + 2) (by omega)]; simp [HZ.out, bv]
  have hfz : ∀ j, w1.frozen? ⟨g, j, none⟩ = false := fun j => World.ownsRow.frozenAt h1 j
  have hgb : b ≠ g := by omega
  have m1 : (i : Int) < (bs0.length : Int) := by omega
  have m2 : (i : Int) + 1 < (bs0.length : Int) := by omega
  have m3 : (i : Int) + 2 < (bs0.length : Int) := by omega
  have k1 : IntKind.i64.wrap ((i : Int) + 1) = (i : Int) + 1 := IntWalk.i64_in _ (by omega)
  have k2 : IntKind.i64.wrap ((i : Int) + 2) = (i : Int) + 2 := IntWalk.i64_in _ (by omega)
  have k3 : IntKind.u8.wrap ((x.toNat : Int) + 1) = (x.toNat : Int) + 1 := by rw [IntKind.wrap_u8]; omega
  have k4 : IntKind.u8.wrap ((y.toNat : Int) - 2) = (y.toNat : Int) - 2 := by rw [IntKind.wrap_u8]; omega
  have k5 : IntKind.u8.wrap ((z.toNat : Int) + 1) = (z.toNat : Int) + 1 := by rw [IntKind.wrap_u8]; omega
  have n1 : (0 : Int) ≤ (i : Int) + 1 := by omega
  have n2 : (0 : Int) ≤ (i : Int) + 2 := by omega
  have HO := Lib.hid h1
  clear h1 hcx hcy hcz h2 hlen
  go_upto_region 4 with (fail)
  go_cut [] (fun wc => Hid (Own wc w.heap.size g c (leap bs0 i x' y' z')) ∧ Hid (Below w.heap.size w wc))
  case first =>
    go_region
    all_goals (go_wp2; go_meet)
    all_goals exact ⟨((HO.out.set' i x' _ EX.out).set' (i + 1) y' _ EY.out).set' (i + 2) z' _ EZ.out, (((bw1.setCell (p := ⟨g, i, none⟩) hgB _).setCell (p := ⟨g, i + 1, none⟩) hgB _).setCell (p := ⟨g, i + 2, none⟩) hgB _).drew⟩
  case rest =>
    obtain ⟨ho, hbw⟩ := hcut
    have zc := hbw.out.size
    have hl : (leap bs0 i x' y' z').length = bs0.length := by simp [leap]
    have HL := Lib.hid hl
    clear hl ci cj ck cx cy cz hfz k1 k2 k3 k4 k5
    go_wp2_with fail
    refine (adler_any _ _ _ bs0 wc HN.out ((rd0.below hbw.out).mono zc) (by have := HN.out; omega)).mono ?_
    rintro e w2 ⟨rfl, hb2⟩
    have bw2 : Below w.heap.size w w2 := hbw.out.trans (hb2.mono zc)
    have z2 := bw2.size
    go_wp2_with fail
    refine (adler_any _ _ _ (leap bs0 i x' y' z') w2 HL.out.symm ((ho.out.rd.below hb2).mono hb2.size) (by rw [HL.out]; have := HN.out; omega)).mono ?_
    rintro e w3 ⟨rfl, hb3⟩
    rw [E1.out, E2.out]
    have bw3 : Below w.heap.size w w3 := bw2.trans (hb3.mono z2)
    have z3 := bw3.size
    have r1 : Rd w3 w.heap.size (some ⟨b, off, none⟩) bs0 := rd0.below bw3
    have r2 : Rd w3 w3.heap.size (some ⟨g, 0, none⟩) (leap bs0 i x' y' z') := ((((ho.out.rd.below hb2).mono hb2.size).below hb3).mono hb3.size)
    obtain ⟨a, ea⟩ : ∃ a : Int, a = (Adl.a bs0 : Int) := ⟨_, rfl⟩
    obtain ⟨b0, eb⟩ : ∃ b : Int, b = (Adl.b bs0 : Int) := ⟨_, rfl⟩
    rw [← ea, ← eb]
    have t1 : (a == a) = true := by simp
    have t2 : (b0 == b0) = true := by simp
    have hns : decide (bs0 = leap bs0 i x' y' z') = false := decide_eq_false (fun e => E3.out e.symm)
    have HNS := Lib.hid hns
    clear hb2 hb3 bw2 ho ea eb hns
    go_wp2_with fail
    refine (same_any _ _ _ _ _ _ bs0 (leap bs0 i x' y' z') _ _ w3 HN.out HL.out.symm r1 r2 (by have := HN.out; omega) (by rw [HL.out]; have := HN.out; omega)).mono ?_
    rintro e w4 ⟨rfl, k, rfl⟩
    rw [HNS.out]
    go_wp2_with fail
    go_ret
    exact ⟨rfl, bw3.trans ⟨rfl, rfl, rfl, Nat.le_refl _, fun _ _ => rfl⟩⟩

end Go.Proofs.Ytaplmdbcjckbkaa

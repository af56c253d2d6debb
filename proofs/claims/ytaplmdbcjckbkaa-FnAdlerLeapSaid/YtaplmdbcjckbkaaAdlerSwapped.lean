/-
  FnAdlerSwapped: two bytes that are exchanged change the second sum alone, by their distance times their difference, for every list of bytes and every two places. No condition.
-/
import Derived.Test.YtaplmdbcjckbkaaAdler
import Derived.Test.YtaplmdbcjckbkaaApp
import Derived.Test.YtaplmdbcjckbkaaRow
import Derived.RegionTactic
import Derived.IntWalk
import Derived.BigRegion
import Derived.Deep.DeepCutAuto
import Derived.Deep.QuietTactic
import Derived.BigQuiet
namespace Go.Proofs.Ytaplmdbcjckbkaa
open Go.RowKit

/-- one byte turned: what the sums do -/
theorem Adl.sm_set (bs : List UInt8) (i : Nat) (x y : UInt8) (h : bs[i]? = some x) : Adl.sm (bs.set i y) + x.toNat = Adl.sm bs + y.toNat := by
  induction bs generalizing i with
  | nil => simp at h
  | cons a r ih =>
    cases i with
    | zero => simp at h; subst h; simp only [List.set_cons_zero, Adl.sm]; omega
    | succ i => have := ih i (by simpa using h); simp only [List.set_cons_succ, Adl.sm]; omega

theorem Adl.ws_set (bs : List UInt8) (i : Nat) (x y : UInt8) (h : bs[i]? = some x) : Adl.ws (bs.set i y) + (bs.length - i) * x.toNat = Adl.ws bs + (bs.length - i) * y.toNat := by
  induction bs generalizing i with
  | nil => simp at h
  | cons a r ih =>
    cases i with
    | zero => simp at h; subst h; simp only [List.set_cons_zero, Adl.ws, List.length_cons, Nat.sub_zero]; omega
    | succ i =>
      have := ih i (by simpa using h)
      simp only [List.set_cons_succ, Adl.ws, List.length_cons, List.length_set, Nat.add_sub_add_right]
      omega

/-- two bytes exchanged -/
def swp (bs : List UInt8) (i k : Nat) (x y : UInt8) : List UInt8 := (bs.set i y).set k x

theorem Adl.swp_ab (bs : List UInt8) (i k : Nat) (x y : UInt8) (hik : i ≤ k) (hi : bs[i]? = some x) (hk : bs[k]? = some y) :
    Adl.a (swp bs i k x y) = Adl.a bs ∧ (Adl.b (swp bs i k x y) : Int) = ((Adl.b bs : Int) + ((k : Int) - i) % 65521 * ((y.toNat : Int) - x.toNat)) % 65521 := by
  have hkl : k < bs.length := (List.getElem?_eq_some_iff.1 hk).1
  have key : Adl.sm (swp bs i k x y) = Adl.sm bs ∧ (Adl.ws (swp bs i k x y) : Int) = Adl.ws bs + ((k : Int) - i) * ((y.toNat : Int) - x.toNat) := by
    by_cases e : i = k
    · subst e
      have exy : x = y := by rw [hi] at hk; exact Option.some.inj hk
      subst exy
      have hs : swp bs i i x x = bs := by
        unfold swp
        apply List.ext_getElem?
        intro j
        simp only [List.getElem?_set, List.length_set]
        split
        · subst_vars; first | exact hi.symm | rw [if_pos hkl, hi]
        · rfl
      rw [hs]
      exact ⟨rfl, by simp⟩
    · have h1 := Adl.sm_set bs i x y hi
      have h2 := Adl.ws_set bs i x y hi
      have hk' : (bs.set i y)[k]? = some y := by rw [List.getElem?_set_ne (by omega)]; exact hk
      have h3 := Adl.sm_set (bs.set i y) k y x hk'
      have h4 := Adl.ws_set (bs.set i y) k y x hk'
      rw [List.length_set] at h4
      unfold swp
      refine ⟨by omega, ?_⟩
      obtain ⟨u, hu⟩ : ∃ u, bs.length - i = u + (k - i) := ⟨bs.length - k, by omega⟩
      have hu' : bs.length - k = u := by omega
      rw [hu, Nat.add_mul, Nat.add_mul] at h2
      rw [hu'] at h4
      obtain ⟨dd, hdd⟩ : ∃ dd : Nat, k - i = dd := ⟨_, rfl⟩
      rw [hdd] at h2
      have hdi : (k : Int) - i = (dd : Int) := by omega
      rw [hdi, Int.mul_sub, ← Int.natCast_mul, ← Int.natCast_mul]
      omega
  obtain ⟨k1, k2⟩ := key
  refine ⟨by unfold Adl.a; rw [k1], ?_⟩
  have e : (((k : Int) - i) % 65521 * ((y.toNat : Int) - x.toNat)) % 65521 = (((k : Int) - i) * ((y.toNat : Int) - x.toNat)) % 65521 := by rw [Int.mul_emod, Int.emod_emod_of_dvd _ (Int.dvd_refl _), ← Int.mul_emod]
  have hl : (swp bs i k x y).length = bs.length := by simp [swp]
  unfold Adl.b
  rw [hl]
  generalize ((k : Int) - i) * ((y.toNat : Int) - x.toNat) = z at *
  omega

theorem Own.set {w : World} {base g c : Nat} {bs : List UInt8} (h : Own w base g c bs) (i : Nat) (x : UInt8) : Own (w.setCell ⟨g, i, none⟩ (.int .u8 (x.toNat : Int))) base g c (bs.set i x) := by
  have := h.stored i (bv x)
  unfold Own
  rw [List.length_set, List.map_set]
  exact this.1

set_option maxRecDepth 100000 in
set_option maxHeartbeats 2000000 in
theorem adlerSwapped_walk (A0 : Option Addr) (c0 : Nat) (bs0 : List UInt8) (a1 a2 : Int) (w : World) (rd0 : Rd w w.heap.size A0 bs0) (lc0 : bs0.length ≤ c0) (lm0 : c0 ≤ 140737488351232) (b1 : -9223372036854775808 ≤ a1 ∧ a1 ≤ 9223372036854775807) (b2 : -9223372036854775808 ≤ a2 ∧ a2 ≤ 9223372036854775807) :
    Calls Try.prog 9 #[.slice A0 bs0.length c0, .int .i64 a1, .int .i64 a2] w fun e w' => e = .returned (.bool true) ∧ Below w.heap.size w w' := by
  obtain ⟨n, hn⟩ : ∃ n, n = bs0.length := ⟨_, rfl⟩
  rw [← hn] at lc0 ⊢
  have HN := Lib.hid hn
  clear hn
  by_cases h0 : a1 < 0
  · go_enter Try.func9, Try.ntmps9
    go_wp2
    go_ret
    exact ⟨rfl, Below.refl _ _⟩
  by_cases h1 : a2 < a1
  · have d1 : decide (a1 < 0) = false := decide_eq_false h0
    go_enter Try.func9, Try.ntmps9
    go_wp2
    go_ret
    exact ⟨rfl, Below.refl _ _⟩
  by_cases h2 : (n : Int) ≤ a2
  · have d1 : decide (a1 < 0) = false := decide_eq_false h0
    have d2 : decide (a2 < a1) = false := decide_eq_false h1
    go_enter Try.func9, Try.ntmps9
    go_wp2
    go_ret
    exact ⟨rfl, Below.refl _ _⟩
  obtain ⟨i, rfl⟩ := Int.eq_ofNat_of_zero_le (show 0 ≤ a1 by omega)
  obtain ⟨k, rfl⟩ := Int.eq_ofNat_of_zero_le (show 0 ≤ a2 by omega)
  have hik : i ≤ k := by omega
  have hkn : k < n := by omega
  have d1 : decide ((i : Int) < 0) = false := decide_eq_false (by omega)
  have d2 : decide (k < i) = false := decide_eq_false (by omega)
  have d3 : decide (n ≤ k) = false := decide_eq_false (by omega)
  clear h0 h1 h2 b1 b2
  obtain ⟨b, off, x, rfl, hb, hx, hcx⟩ := rd0.at (k := i) (by have := HN.out; omega)
  obtain ⟨b', off', y, e', _, hy, hcy⟩ := rd0.at (k := k) (by have := HN.out; omega)
  injection e' with e'
  injection e' with e1 e2
  subst e1
  subst e2
  go_enter Try.func9, Try.ntmps9
  go_wp2_with (at_builtin; refine wpList_append_bytes rfl _ _ 22 rfl Try.underlying22 w.heap.size w.heap.size 0 [] bs0 0 n rfl rfl (Own.empty w _ (Nat.le_refl _)) w.heap.size _ c0 rfl HN.out (rd0.alloc (Nat.le_refl _) _) (by have := HN.out; simp only [List.length_nil]; omega) (by simp) ?_; intro g c w1 h1 h2; refine Hid.out ?_)
  refine Lib.hid ?_
  simp only [List.nil_append] at h1
  have bw1 : Below w.heap.size w w1 := ((Below.refl _ _).alloc (Nat.le_refl _) _).grown h2 (by simp) (by simp)
  have z1 := bw1.size
  have cx : w1.cell? ⟨b, off + i, none⟩ = some (.int .u8 (x.toNat : Int)) := (bw1.cell hb).trans hcx
  have cy : w1.cell? ⟨b, off + k, none⟩ = some (.int .u8 (y.toNat : Int)) := (bw1.cell hb).trans hcy
  have hlen := HN.out
  have ci : w1.cell? ⟨g, i, none⟩ = some (.int .u8 (x.toNat : Int)) := by
    rw [World.ownsRow.cellAt h1 i (by omega)]; simp [hx, bv]
  have ck : w1.cell? ⟨g, k, none⟩ = some (.int .u8 (y.toNat : Int)) := by
    rw [World.ownsRow.cellAt h1 k (by omega)]; simp [hy, bv]
  have hfz : ∀ j, w1.frozen? ⟨g, j, none⟩ = false := fun j => World.ownsRow.frozenAt h1 j
  have hgb : b ≠ g := by have := h1.lt'.1; omega
  obtain ⟨e1, e2⟩ := Adl.swp_ab bs0 i k x y hik hx hy
  have HX := Lib.hid hx
  have HY := Lib.hid hy
  have HO := Lib.hid h1
  have hgB := h1.lt'.1
  clear hx hy h1 hcx hcy h2
  have i0 : (0 : Int) ≤ (i : Int) := by omega
  have k0 : (0 : Int) ≤ (k : Int) := by omega
  have i1 : (i : Int) < (n : Int) := by omega
  have k1 : (k : Int) < (n : Int) := by omega
  have i2 : (i : Int) < (bs0.length : Int) := by omega
  have k2 : (k : Int) < (bs0.length : Int) := by omega
  clear hlen
  go_upto_region 4 with (fail)
  go_cut [] (fun wc => Hid (Own wc w.heap.size g c (swp bs0 i k x y)) ∧ Hid (Below w.heap.size w wc))
  case first =>
    by_cases heq : i = k
    · subst heq
      obtain rfl : x = y := by have h1 := HX.out; rw [HY.out] at h1; exact (Option.some.inj h1).symm
      go_region
      all_goals (go_wp2; go_meet)
      all_goals exact ⟨(HO.out.set i x).set i x, ((bw1.setCell (p := ⟨g, i, none⟩) hgB _).setCell (p := ⟨g, i, none⟩) hgB _).drew⟩
    · go_region
      all_goals (go_wp2; go_meet)
      all_goals exact ⟨(HO.out.set i y).set k x, ((bw1.setCell (p := ⟨g, i, none⟩) hgB _).setCell (p := ⟨g, k, none⟩) hgB _).drew⟩
  case rest =>
    obtain ⟨ho, hbw⟩ := hcut
    have z := hbw.out.size
    have la := Adl.a_lt bs0
    have lb := Adl.b_lt bs0
    have ld := Adl.b_lt (swp bs0 i k x y)
    obtain ⟨a, ea⟩ : ∃ a, a = Adl.a bs0 := ⟨_, rfl⟩
    obtain ⟨b0, eb⟩ : ∃ b, b = Adl.b bs0 := ⟨_, rfl⟩
    obtain ⟨d, ed⟩ : ∃ d, d = Adl.b (swp bs0 i k x y) := ⟨_, rfl⟩
    rw [← ea] at la e1
    rw [← eb] at lb e2
    rw [← ed] at ld e2
    have HA := Lib.hid ea
    have HB := Lib.hid eb
    have HC := Lib.hid e1
    have HD := Lib.hid ed
    have hx0 := x.toNat_lt
    have hy0 := y.toNat_lt
    have t2 : ((d : Int) == ((b0 : Int) + ((k : Int) - i) % 65521 * ((y.toNat : Int) - x.toNat)) % 65521) = true := by rw [beq_iff_eq]; exact e2
    have p1 : ((k : Int) - i) % 65521 * ((y.toNat : Int) - x.toNat) ≤ 65521 * 256 := by
      have : ((k : Int) - i) % 65521 * ((y.toNat : Int) - x.toNat) ≤ ((k : Int) - i) % 65521 * 256 := Int.mul_le_mul_of_nonneg_left (by omega) (by omega)
      omega
    have p2 : -(65521 * 256) ≤ ((k : Int) - i) % 65521 * ((y.toNat : Int) - x.toNat) := by
      have : ((k : Int) - i) % 65521 * (-256) ≤ ((k : Int) - i) % 65521 * ((y.toNat : Int) - x.toNat) := Int.mul_le_mul_of_nonneg_left (by omega) (by omega)
      omega
    have hl : (swp bs0 i k x y).length = bs0.length := by simp [swp]
    have HL := Lib.hid hl
    clear ea eb ed e1 e2 hl ci ck cx cy hfz
    go_wp2_with fail
    refine (adler_any _ _ _ bs0 wc HN.out ((rd0.below hbw.out).mono z) (by have := HN.out; omega)).mono ?_
    rintro e w2 ⟨rfl, hb2⟩
    rw [← HA.out, ← HB.out]
    have bw2 : Below w.heap.size w w2 := hbw.out.trans (hb2.mono z)
    have z2 := bw2.size
    go_wp2_with fail
    refine (adler_any _ _ _ (swp bs0 i k x y) w2 HL.out.symm ((ho.out.rd.below hb2).mono hb2.size) (by rw [HL.out]; have := HN.out; omega)).mono ?_
    rintro e w3 ⟨rfl, hb3⟩
    rw [HC.out, ← HD.out]
    have bw3 : Below w.heap.size w w3 := bw2.trans (hb3.mono z2)
    have cx : w3.cell? ⟨b, off + i, none⟩ = some (.int .u8 (x.toNat : Int)) := by
      rcases rd0.below bw3 with e | ⟨b', off', e, _, hc⟩
      · have := HX.out; rw [e] at this; cases this
      · injection e with e; injection e with e1 e2; subst e1; subst e2; exact hc i x HX.out
    have cy : w3.cell? ⟨b, off + k, none⟩ = some (.int .u8 (y.toNat : Int)) := by
      rcases rd0.below bw3 with e | ⟨b', off', e, _, hc⟩
      · have := HX.out; rw [e] at this; cases this
      · injection e with e; injection e with e1 e2; subst e1; subst e2; exact hc k y HY.out
    have t3 : ((a : Int) == (a : Int)) = true := by simp
    clear hb2 hb3 bw2
    have q1 : ∀ n, Calls Try.prog 18 #[.int .i64 ((k : Int) - i)] (w3.drewN n) fun e w' => e = .returned (.int .i64 (((k : Int) - i) % 65521)) ∧ w' = w3.drewN n := fun n => (rest_any _ _ (by omega) (by omega)).mono fun _ _ ⟨h1, h2⟩ => ⟨h1, h2.symm⟩
    have q2 : ∀ n, Calls Try.prog 18 #[.int .i64 ((b0 : Int) + ((k : Int) - i) % 65521 * ((y.toNat : Int) - x.toNat))] (w3.drewN n) fun e w' => e = .returned (.int .i64 (((b0 : Int) + ((k : Int) - i) % 65521 * ((y.toNat : Int) - x.toNat)) % 65521)) ∧ w' = w3.drewN n := fun n => (rest_any _ _ (by omega) (by omega)).mono fun _ _ ⟨h1, h2⟩ => ⟨h1, h2.symm⟩
    have Q1 := Lib.hid q1
    have Q2 := Lib.hid q2
    clear q1 q2
    have r1 : IntKind.i64.wrap ((k : Int) - i) = (k : Int) - i := IntWalk.i64_in _ (by omega)
    have r2 : IntKind.i64.wrap ((y.toNat : Int) - x.toNat) = (y.toNat : Int) - x.toNat := IntWalk.i64_in _ (by omega)
    have r3 : IntKind.i64.wrap (((k : Int) - i) % 65521 * ((y.toNat : Int) - x.toNat)) = ((k : Int) - i) % 65521 * ((y.toNat : Int) - x.toNat) := IntWalk.i64_in _ (by omega)
    have r4 : IntKind.i64.wrap ((b0 : Int) + ((k : Int) - i) % 65521 * ((y.toNat : Int) - x.toNat)) = (b0 : Int) + ((k : Int) - i) % 65521 * ((y.toNat : Int) - x.toNat) := IntWalk.i64_in _ (by omega)
    go_wp2_with fail
    go_quiet (first | (go_at_call 18; exact Calls.quiet_of_same (Q1.out _)) | (go_at_call 18; exact Calls.quiet_of_same (Q2.out _)))
    go_wp2
    go_ret
    exact ⟨rfl, bw3.trans ⟨rfl, rfl, rfl, Nat.le_refl _, fun _ _ => rfl⟩⟩

end Go.Proofs.Ytaplmdbcjckbkaa

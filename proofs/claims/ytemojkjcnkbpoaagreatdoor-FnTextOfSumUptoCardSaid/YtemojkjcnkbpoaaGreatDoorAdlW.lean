/-
  hash/adler32.update adds the bytes to both sums. Condition: both sums are less than 65521 at the start.
-/
import Derived.Test.YtemojkjcnkbpoaaGreatDoorAdl
import Derived.Test.YtemojkjcnkbpoaaGreatDoorSame
import Derived.Lib.EndianBits
import Derived.Deep.LoopGhost
import Derived.Deep.DeepCutAuto
namespace Go.Proofs.YtemojkjcnkbpoaaGreatDoor
open Go.RowKit

/-- inside a chunk of at most 5552 bytes, k of them done: r is to come -/
structure Chk (w : World) (B X Y : Nat) (r : List UInt8) (A : Option Addr) (m c s1 s2 k : Nat) : Prop where
  hm : m = r.length
  hmc : m ≤ c
  hc : c ≤ 9223372036854775807
  rd : Rd w B A r
  fx : Adl.adA s1 r = X
  fy : Adl.adB s1 s2 r = Y
  kb : k + m ≤ 5552
  b1 : s1 ≤ 65520 + 255 * k
  b2 : 2 * s2 ≤ 131040 * (k + 1) + 255 * (k * (k + 1))

theorem quad (k : Nat) (h : k ≤ 5552) : k * (k + 1) ≤ 30830256 := by
  have := Nat.mul_le_mul h (Nat.add_le_add_right h 1)
  omega

theorem Chk.one {w : World} {B X Y : Nat} {r : List UInt8} {A A' : Option Addr} {m c c' s1 s2 k : Nat} {x : UInt8} (h : Chk w B X Y (x :: r) A m c s1 s2 k) (m' : Nat) (hm' : m' = r.length) (hmc' : m' ≤ c') (hc' : c' ≤ 9223372036854775807)
    (hA : ∀ b off, A = some ⟨b, off, none⟩ → r ≠ [] → A' = some ⟨b, off + 1, none⟩) : Chk w B X Y r A' m' c' (s1 + x.toNat) (s2 + (s1 + x.toNat)) (k + 1) := by
  have hx := x.toNat_lt
  have h1 := h.hm
  have h2 := h.kb
  have h3 := h.b1
  have h4 := h.b2
  simp only [List.length_cons] at h1
  refine ⟨hm', hmc', hc', ?_, h.fx, h.fy, by omega, by omega, ?_⟩
  · have := h.rd.cut (k := 1) (A' := A') (fun b off e hl => hA b off e (by rintro rfl; simp at hl))
    simpa using this
  · have e : (k + 1) * (k + 1 + 1) = k * (k + 1) + 2 * (k + 1) := by simp only [Nat.add_mul, Nat.mul_add]; omega
    rw [e]
    omega

theorem Chk.room {w : World} {B X Y : Nat} {r : List UInt8} {A : Option Addr} {m c s1 s2 k : Nat} (h : Chk w B X Y r A m c s1 s2 k) : s1 ≤ 1481280 ∧ s2 + 4 * s1 + 2550 ≤ 4294967295 ∨ m < 4 := by
  have h1 := h.kb
  have h2 := h.b1
  have h3 := h.b2
  have h4 := quad k (by omega)
  by_cases hm : 4 ≤ m
  · left
    have h5 : k * (k + 1) ≤ 5548 * 5549 := Nat.mul_le_mul (by omega) (by omega)
    omega
  · right; omega

theorem Chk.room1 {w : World} {B X Y : Nat} {r : List UInt8} {A : Option Addr} {m c s1 s2 k : Nat} (h : Chk w B X Y r A m c s1 s2 k) (hm : 0 < m) : s1 ≤ 1481280 ∧ s2 + s1 + 255 ≤ 4294967295 := by
  have h1 := h.kb
  have h2 := h.b1
  have h3 := h.b2
  have h5 : k * (k + 1) ≤ 5551 * 5552 := Nat.mul_le_mul (by omega) (by omega)
  omega

/-- what holds at the head of the outer loop -/
structure AdO (w : World) (B FX FY : Nat) (r : List UInt8) (A : Option Addr) (m c s1 s2 : Nat) : Prop where
  hm : m = r.length
  hmc : m ≤ c
  hc : c ≤ 9223372036854775807
  rd : Rd w B A r
  l1 : s1 < 65521
  l2 : s2 < 65521
  fx : Adl.adA s1 r % 65521 = FX
  fy : Adl.adB s1 s2 r % 65521 = FY

theorem u32_and16 (a b : Nat) (ha : a < 65536) (hb : b < 65536) : bits .and .u32 (b * 65536 + a : Int) 65535 = (a : Int) := by
  have h := bits_mask .u32 32 (by decide) wraps_u32 16 (by decide) ((b : Int) * 65536 + a) (by omega) (by omega)
  have e : ((2 : Int) ^ 16 - 1) = 65535 := by decide
  rw [e] at h
  rw [h]
  omega

theorem u32_or16' (a b : Nat) (ha : a < 65536) (hb : b < 65536) : bits .or .u32 ((b : Int) * 65536) (a : Int) = (b : Int) * 65536 + a :=
  bits_join .u32 32 (by decide) wraps_u32 16 _ _ (by omega) (by omega) (by omega) (by omega) (by omega) (by omega)

/-- what the head of a round leaves: a chunk ch, and what comes behind it -/
structure AdC (w : World) (B : Nat) (r ch r' : List UInt8) (Ac : Option Addr) (mc cc : Nat) (Aq : Option Addr) (mq cq : Nat) : Prop where
  hr : r = ch ++ r'
  hm : mc = ch.length
  hmc : mc ≤ cc
  hc : cc ≤ 9223372036854775807
  pos : 0 < mc
  kb : mc ≤ 5552
  rd : Rd w B Ac ch
  hq : mq = r'.length
  hqc : mq ≤ cq
  hcq : cq ≤ 9223372036854775807
  rdq : Rd w B Aq r'

theorem AdC.start {w : World} {B : Nat} {r ch r' : List UInt8} {Ac : Option Addr} {mc cc : Nat} {Aq : Option Addr} {mq cq s1 s2 : Nat} (h : AdC w B r ch r' Ac mc cc Aq mq cq) (h1 : s1 < 65521) (h2 : s2 < 65521) :
    Chk w B (Adl.adA s1 ch) (Adl.adB s1 s2 ch) ch Ac mc cc s1 s2 0 :=
  ⟨h.hm, h.hmc, h.hc, h.rd, rfl, rfl, by have := h.kb; omega, by omega, by omega⟩

theorem Chk.four {w : World} {B X Y : Nat} {r : List UInt8} {A' : Option Addr} {b off m c c' s1 s2 k : Nat} {x0 x1 x2 x3 : UInt8} (h : Chk w B X Y (x0 :: x1 :: x2 :: x3 :: r) (some ⟨b, off, none⟩) m c s1 s2 k) (m' : Nat) (hm' : m' = r.length) (hmc' : m' ≤ c') (hc' : c' ≤ 9223372036854775807)
    (hA : r ≠ [] → A' = some ⟨b, off + 4, none⟩) : Chk w B X Y r A' m' c' (s1 + x0.toNat + x1.toNat + x2.toNat + x3.toNat)
      (s2 + (s1 + x0.toNat) + (s1 + x0.toNat + x1.toNat) + (s1 + x0.toNat + x1.toNat + x2.toNat) + (s1 + x0.toNat + x1.toNat + x2.toNat + x3.toNat)) (k + 4) := by
  have g1 := h.hm
  have g2 := h.kb
  simp only [List.length_cons] at g1
  have s1 := h.one (A' := some ⟨b, off + 1, none⟩) (c' := 5552) (m - 1) (by simp only [List.length_cons]; omega) (by omega) (by omega) (fun b' o' e _ => by injection e with e; injection e with e1 e2; subst e1; subst e2; rfl)
  have s2 := s1.one (A' := some ⟨b, off + 2, none⟩) (c' := 5552) (m - 2) (by simp only [List.length_cons]; omega) (by omega) (by omega) (fun b' o' e _ => by injection e with e; injection e with e1 e2; subst e1; subst e2; rfl)
  have s3 := s2.one (A' := some ⟨b, off + 3, none⟩) (c' := 5552) (m - 3) (by simp only [List.length_cons]; omega) (by omega) (by omega) (fun b' o' e _ => by injection e with e; injection e with e1 e2; subst e1; subst e2; rfl)
  exact s3.one (A' := A') (c' := c') m' hm' hmc' hc' (fun b' o' e hr => by injection e with e; injection e with e1 e2; subst e1; subst e2; exact hA hr)

theorem four_of (r : List UInt8) (h : 4 ≤ r.length) : ∃ x0 x1 x2 x3 r3, r = x0 :: x1 :: x2 :: x3 :: r3 := by
  match r, h with
  | x0 :: x1 :: x2 :: x3 :: r3, _ => exact ⟨x0, x1, x2, x3, r3, rfl⟩

def nextAd : Option Addr → Option Addr
  | some ⟨b, o, _⟩ => some ⟨b, o + 1, none⟩
  | none => none

theorem AdC.done {w : World} {B FX FY : Nat} {r ch r' : List UInt8} {A Ac : Option Addr} {mc cc m c : Nat} {Aq : Option Addr} {mq cq s1 s2 : Nat} (h : AdC w B r ch r' Ac mc cc Aq mq cq) (ho : AdO w B FX FY r A m c s1 s2) :
    AdO w B FX FY r' Aq mq cq (Adl.adA s1 ch % 65521) (Adl.adB s1 s2 ch % 65521) ∧ mq < m := by
  refine ⟨⟨h.hq, h.hqc, h.hcq, h.rdq, Nat.mod_lt _ (by omega), Nat.mod_lt _ (by omega), ?_, ?_⟩, ?_⟩
  · rw [Adl.adA_mod, ← Adl.adA_append, ← h.hr]; exact ho.fx
  · rw [Adl.adB_mod, ← Adl.adB_append, ← h.hr]; exact ho.fy
  · have h1 := ho.hm
    have h2 := h.hr
    have h3 := h.hm
    have h4 := h.hq
    have h5 := h.pos
    subst h2
    rw [List.length_append] at h1
    omega

set_option maxRecDepth 100000 in
set_option maxHeartbeats 4000000 in
theorem update_any (a b : Nat) (A : Option Addr) (n c B : Nat) (bs : List UInt8) (w : World) (hn : n = bs.length) (h : Rd w B A bs) (hnc : n ≤ c) (hc : c ≤ 9223372036854775807) (ha : a < 65521) (hb : b < 65521) :
    Calls Tryz.prog 143 #[.int .u32 ((b : Int) * 65536 + a), .slice A n c] w fun e w' => e = .returned (.int .u32 ((Adl.adB a b bs % 65521 : Nat) * 65536 + (Adl.adA a bs % 65521 : Nat))) ∧ ∃ k, w' = w.drewN k := by
  obtain ⟨FX, hFX⟩ : ∃ FX, Adl.adA a bs % 65521 = FX := ⟨_, rfl⟩
  obtain ⟨FY, hFY⟩ : ∃ FY, Adl.adB a b bs % 65521 = FY := ⟨_, rfl⟩
  rw [hFX, hFY]
  have st0 : AdO w B FX FY bs A n c a b := ⟨hn, hnc, hc, h, ha, hb, hFX, hFY⟩
  have HST := Lib.hid st0
  have e1 := u32_and16 a b (by omega) (by omega)
  obtain ⟨D, hD⟩ : ∃ D : Int, (b : Int) * 65536 + a = D := ⟨_, rfl⟩
  rw [hD] at e1 ⊢
  have hD0 : 0 ≤ D := by omega
  have hD1 : D < 4294967296 := by omega
  have e2 : D / 65536 = (b : Int) := by omega
  clear st0 hFX hFY h hn hD
  go_enter Tryz.func143, Tryz.ntmps143
  go_wp2
  go_loopg [1, 5, 6] n (fun gk p t1 t2 wr => ∃ (r : List UInt8) (A' : Option Addr) (m c' s1 s2 q : Nat), p = .slice A' m c' ∧ t1 = .int .u32 (s1 : Int) ∧ t2 = .int .u32 (s2 : Int) ∧ gk = m ∧ Hid (AdO w B FX FY r A' m c' s1 s2) ∧ wr = w.drewN q)
  case atStart => exact ⟨bs, A, n, c, a, b, 0, rfl, rfl, rfl, rfl, HST, rfl⟩
  case round =>
    clear HST e1 e2 hD0 hD1 ha hb hnc hc
    obtain ⟨r, A', m, c', s1, s2, q, rfl, rfl, rfl, rfl, hst, rfl⟩ := hrel
    have i1 := hst.out.hmc
    have i2 := hst.out.hc
    have i3 := hst.out.l1
    have i4 := hst.out.l2
    by_cases hg0 : gk = 0
    · subst hg0
      have hr : r = [] := List.eq_nil_of_length_eq_zero hst.out.hm.symm
      subst hr
      have f1 : s1 = FX := by have := hst.out.fx; rw [Adl.adA] at this; omega
      have f2 : s2 = FY := by have := hst.out.fy; rw [Adl.adB] at this; omega
      have e3 := u32_or16' s1 s2 (by omega) (by omega)
      have HF := Lib.hid (And.intro f1 f2)
      clear f1 f2
      go_wp2
      go_ret
      obtain ⟨rfl, rfl⟩ := HF.out
      exact ⟨rfl, q, rfl⟩
    · have hne : r ≠ [] := by rintro rfl; exact hg0 hst.out.hm
      rcases hst.out.rd with e | ⟨b', off, rfl, hb', hcell⟩
      · exact absurd e hne
      go_upto_if 19 with (fail)
      go_cut [1, 7] (fun p qs wc => ∃ (ch r' : List UInt8) (Ac : Option Addr) (mc cc : Nat) (Aq : Option Addr) (mq cq q' : Nat), p = .slice Ac mc cc ∧ qs = .slice Aq mq cq ∧ Hid (AdC w B r ch r' Ac mc cc Aq mq cq) ∧ wc = w.drewN q')
      case first =>
        by_cases hbig : 5552 < gk
        · have hnc : ¬ c' = 5552 := by omega
          go_wp2
          go_quiet (fail)
          go_wp2
          go_meet
          refine ⟨r.take 5552, r.drop 5552, _, _, _, _, _, _, _, rfl, rfl, ?_, by rw [World.drewN_drewN]⟩
          have hm := hst.out.hm
          exact ⟨(List.take_append_drop _ _).symm, by rw [List.length_take]; omega, by omega, by omega, by omega, by omega, hst.out.rd.take _, by rw [List.length_drop, hm], by omega, by omega,
            hst.out.rd.cut (fun b2 o2 e _ => by injection e with e; injection e with e1 e2; subst e1; subst e2; rfl)⟩
        · go_wp2
          go_meet
          refine ⟨r, [], _, _, _, _, _, _, _, rfl, rfl, ?_, rfl⟩
          have hm := hst.out.hm
          exact ⟨by simp, hm, by omega, by omega, by omega, by omega, hst.out.rd, rfl, by omega, by omega, .inl rfl⟩
      case rest =>
        obtain ⟨ch, r', Ac, mc, cc, Aq, mq, cq, q', rfl, rfl, hC, rfl⟩ := hcut
        have HS0 := Lib.hid (hC.out.start i3 i4)
        have hD := hC.out.done hst.out
        have HD := Lib.hid hD
        clear hD hcell hne hb' i1 i2
        obtain ⟨X, hX⟩ : ∃ X, Adl.adA s1 ch = X := ⟨_, rfl⟩
        obtain ⟨Y, hY⟩ : ∃ Y, Adl.adB s1 s2 ch = Y := ⟨_, rfl⟩
        rw [hX, hY] at HS0 HD
        clear hX hY
        obtain ⟨gout, rfl⟩ : ∃ gout : Nat, gout = gk := ⟨_, rfl⟩
        go_wp2
        go_loopg [1, 5, 6] mc (fun g2 p t1 t2 wr => ∃ (r2 : List UInt8) (A2 : Option Addr) (m2 c2 u1 u2 k : Nat), p = .slice A2 m2 c2 ∧ t1 = .int .u32 (u1 : Int) ∧ t2 = .int .u32 (u2 : Int) ∧ g2 = m2 ∧ Hid (Chk w B X Y r2 A2 m2 c2 u1 u2 k) ∧ wr = w.drewN q')
        case atStart => exact ⟨ch, Ac, mc, cc, s1, s2, 0, rfl, rfl, rfl, rfl, HS0, rfl⟩
        case round =>
          clear HS0
          obtain ⟨r2, A2, m2, c2, u1, u2, k, rfl, rfl, rfl, rfl, hk, rfl⟩ := hrel
          have j1 := hk.out.hmc
          have j2 := hk.out.hc
          by_cases h4 : 4 ≤ gk
          · obtain ⟨x0, x1, x2, x3, r3, rfl⟩ := four_of r2 (by rw [← hk.out.hm]; exact h4)
            have hm2 := hk.out.hm
            · rcases hk.out.rd with e | ⟨b2, o2, rfl, _, hcell⟩
              · cases e
              have q0 := hcell 0 x0 (by simp)
              have q1 := hcell 1 x1 (by simp)
              have q2 := hcell 2 x2 (by simp)
              have q3 := hcell 3 x3 (by simp)
              rw [Nat.add_zero] at q0
              have y0 := x0.toNat_lt
              have y1 := x1.toNat_lt
              have y2 := x2.toNat_lt
              have y3 := x3.toNat_lt
              have hroom : u1 ≤ 1481280 ∧ u2 + 4 * u1 + 2550 ≤ 4294967295 := by rcases hk.out.room with h | h; exact h; omega
              obtain ⟨z1, z2⟩ := hroom
              have HM := Lib.hid hm2
              clear hm2 hcell
              by_cases hc4 : c2 = 4
              all_goals
                go_wp2
                go_roundg (gk - 4)
                case measure => omega
                case rel =>
                  have hm2 := HM.out
                  simp only [List.length_cons] at hm2
                  refine ⟨r3, _, _, _, _, _, k + 4, rfl, ?_, ?_, rfl, hk.out.four (gk - 4) (by omega) (by omega) (by omega) ?_, rfl⟩
                  · go_num
                  · go_num
                  · intro hne3
                    have hp := List.length_pos_iff.2 hne3
                    first
                      | (exfalso; omega)
                      | rfl
          · have hd : decide ((4 : Int) ≤ (gk : Int)) = false := by simp; omega
            obtain ⟨gin, rfl⟩ : ∃ gin : Nat, gin = gk := ⟨_, rfl⟩
            go_wp2
            go_loopg [5, 6, 67] gin (fun g3 t1 t2 ix wr => ∃ (i v1 v2 : Nat) (A3 : Option Addr), t1 = .int .u32 (v1 : Int) ∧ t2 = .int .u32 (v2 : Int) ∧ ix = .int .i64 (i : Int) ∧ g3 + i = gin ∧ Hid (Chk w B X Y (r2.drop i) A3 (gin - i) (gin - i) v1 v2 (k + i)) ∧ wr = w.drewN q')
            case atStart =>
              have h1 := hk.out.hc
              exact ⟨0, u1, u2, A2, rfl, rfl, rfl, rfl, ⟨hk.out.hm, Nat.le_refl _, by omega, hk.out.rd, hk.out.fx, hk.out.fy, hk.out.kb, hk.out.b1, hk.out.b2⟩, rfl⟩
            case round =>
              obtain ⟨i, v1, v2, A3, rfl, rfl, rfl, hgi, hk3, rfl⟩ := hrel
              have HG := Lib.hid hgi
              have hile : i ≤ gin := by omega
              clear hgi
              have hm2 := hk.out.hm
              have HM := Lib.hid hm2
              clear hm2
              by_cases hlt : i < gin
              · obtain ⟨b2, o2, x, rfl, _, hx, hc⟩ := hk.out.rd.at (k := i) (by rw [← HM.out]; exact hlt)
                have HX := Lib.hid hx
                clear hx
                obtain ⟨z1, z2⟩ := hk3.out.room1 (by omega)
                have y0 := x.toNat_lt
                go_wp2
                go_roundg (gk - 1)
                case measure => have := HG.out; omega
                case rel =>
                  have hdrop : r2.drop i = x :: r2.drop (i + 1) := by
                    obtain ⟨hl, he⟩ := List.getElem?_eq_some_iff.1 HX.out
                    rw [List.drop_eq_getElem_cons hl, he]
                  have h3 := hk3.out
                  rw [hdrop] at h3
                  have hm := HM.out
                  refine ⟨i + 1, v1 + x.toNat, v2 + (v1 + x.toNat), nextAd A3, by go_num, by go_num, by go_num, by have := HG.out; omega, ?_, rfl⟩
                  refine h3.one (A' := nextAd A3) (gin - (i + 1)) (by rw [List.length_drop]; omega) (Nat.le_refl _) (by omega) ?_
                  intro b3 o3 e _
                  subst e
                  rfl
              · have hi : i = gin := by omega
                have hnil : r2.drop i = [] := List.drop_eq_nil_of_le (by rw [← HM.out]; omega)
                have f1 : v1 = X := by have := hk3.out.fx; rw [hnil, Adl.adA] at this; exact this
                have f2 : v2 = Y := by have := hk3.out.fy; rw [hnil, Adl.adB] at this; exact this
                subst f1
                subst f2
                have hq : (k + i) * (k + i + 1) ≤ 30830256 := quad _ (by have := hk.out.kb; omega)
                have z1 : v1 ≤ 4294967295 := by have := hk3.out.b1; have := hk.out.kb; omega
                have z2 : v2 ≤ 4294967295 := by have := hk3.out.b2; have := hk.out.kb; omega
                clear hnil hi hq
                go_wp2
                go_roundg mq
                case measure => exact HD.out.2
                case rel => exact ⟨r', Aq, mq, cq, _, _, q', rfl, by go_num, by go_num, rfl, HD.out.1, rfl⟩

end Go.Proofs.YtemojkjcnkbpoaaGreatDoor

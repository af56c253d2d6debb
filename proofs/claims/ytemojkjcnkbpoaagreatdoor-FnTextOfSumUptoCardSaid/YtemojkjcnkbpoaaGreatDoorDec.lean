/-
  encoding/ascii85.Decode writes what the plain decoding says, returns its length, what was used of the text, and the fault. Conditions: dst is a whole row of bytes, src lies in another block; the lengths' bounds.
-/
import Derived.Test.YtemojkjcnkbpoaaGreatDoorDecS
import Derived.Deep.LoopGhost
import Derived.Deep.DeepCutAuto
namespace Go.Proofs.YtemojkjcnkbpoaaGreatDoor
open Go.RowKit
set_option linter.unusedVariables false

def DecPost (w : World) (g R : Nat) (cs : Array Value) (bs : List UInt8) (fl : Bool) (e : Ending) (w' : World) : Prop :=
  ∃ out used bad, Asc.dec R fl bs.length bs 0 0 0 0 [] = (out, used, bad) ∧ used ≤ bs.length ∧ out.length ≤ R ∧ e = .returned (.tuple #[.int .i64 (out.length : Int), .int .i64 (used : Int), errV 42 bad]) ∧ DecEnd w g R cs out w'

theorem drop_cons {bs : List UInt8} {i : Nat} {x : UInt8} (hx : bs[i]? = some x) : bs.drop i = x :: bs.drop (i + 1) := by
  obtain ⟨hl, he⟩ := List.getElem?_eq_some_iff.1 hx
  rw [List.drop_eq_getElem_cons hl, he]

theorem ret3 {a b : Int} {u u' : Int} {v v' : Value} (h : a = b) (h2 : u = u') (h3 : v = v') : Ending.returned (.tuple #[.int .i64 a, .int .i64 u, v]) = .returned (.tuple #[.int .i64 b, .int .i64 u', v']) := by rw [h, h2, h3]

/-- a number of 32 bits, shifted to the left by eight bits each time: its first bytes -/
theorem shifts3 (P : Nat) (hP : P < 4294967296) : ∃ y0 y1 y2 t1 t2 t3 : Nat, (y0 : Int) = ((UInt8.ofNat (P / 16777216)).toNat : Int) ∧ (y1 : Int) = ((UInt8.ofNat (P / 65536)).toNat : Int) ∧ (y2 : Int) = ((UInt8.ofNat (P / 256)).toNat : Int) ∧
    IntKind.u32.wrap ((P : Int) * 256) = (t1 : Int) ∧ IntKind.u32.wrap ((t1 : Int) * 256) = (t2 : Int) ∧ IntKind.u32.wrap ((t2 : Int) * 256) = (t3 : Int) ∧ (P : Int) / 16777216 = (y0 : Int) ∧ (t1 : Int) / 16777216 = (y1 : Int) ∧ (t2 : Int) / 16777216 = (y2 : Int) ∧
    y0 < 256 ∧ y1 < 256 ∧ y2 < 256 ∧ t1 < 4294967296 ∧ t2 < 4294967296 := by
  refine ⟨P / 16777216, P * 256 % 4294967296 / 16777216, P * 256 % 4294967296 * 256 % 4294967296 / 16777216, P * 256 % 4294967296, P * 256 % 4294967296 * 256 % 4294967296, P * 256 % 4294967296 * 256 % 4294967296 * 256 % 4294967296, ?_, ?_, ?_, ?_, ?_, ?_, ?_, ?_, ?_, ?_, ?_, ?_, ?_, ?_⟩
  · rw [UInt8.toNat_ofNat']; omega
  · rw [UInt8.toNat_ofNat']; omega
  · rw [UInt8.toNat_ofNat']; omega
  · rw [IntKind.wrap_u32]; omega
  · rw [IntKind.wrap_u32]; omega
  · rw [IntKind.wrap_u32]; omega
  · omega
  · omega
  · omega
  · omega
  · omega
  · omega
  · omega
  · omega

set_option maxRecDepth 100000 in
set_option maxHeartbeats 4000000 in
theorem decode_any (g R : Nat) (b s : Nat) (m c : Nat) (bs : List UInt8) (fl : Bool) (cs : Array Value) (T : TypeId) (w : World) (hg : w.heap[g]? = some (.cells cs T (0, 0)))
    (hu8 : ∀ i, i < R → ∃ z : Int, cs[i]? = some (.int .u8 z)) (hR : R ≤ 4611686018427387904) (hm : m = bs.length) (hm' : m ≤ 4611686018427387904)
    (hbg : b ≠ g) (hsrc : ∀ i x, bs[i]? = some x → w.cell? ⟨b, s + i, none⟩ = some (.int .u8 (x.toNat : Int))) :
    Calls Tryz.prog 15 #[.slice (some ⟨g, 0, none⟩) R R, .slice (some ⟨b, s, none⟩) m c, .bool fl] w (DecPost w g R cs bs fl) := by
  have st0 : DecSt w g R cs bs fl 0 0 0 0 [] w := ⟨rfl, by omega, by omega, fun h => absurd rfl h, by simp, Nat.le_refl _, cs, (setRow_same w g cs T (0, 0) hg).symm, Upd.refl _ _ _, by simp⟩
  have HM := Lib.hid hm
  have HG := Lib.hid hg
  have HU := Lib.hid hu8
  have HS := Lib.hid hsrc
  have HST := Lib.hid st0
  clear hm hg hu8 hsrc st0
  go_enter Tryz.func15, Tryz.ntmps15
  go_wp2
  go_loopg [6, 7, 8, 9, 10, 17] m (fun gk nv uv ev vv bv iv wr => ∃ (i n used v nb : Nat) (out : List UInt8), i + gk = m ∧ ev = .nilIface ∧ iv = .int .i64 (i : Int) ∧ nv = .int .i64 (n : Int) ∧ uv = .int .i64 (used : Int) ∧ vv = .int .u32 (v : Int) ∧ bv = .int .i64 (nb : Int) ∧ Hid (n = out.length) ∧ Hid (DecSt w g R cs bs fl i used v nb out wr))
  case atStart => exact ⟨0, 0, 0, 0, 0, [], by omega, rfl, rfl, rfl, rfl, rfl, rfl, rfl, HST⟩
  case round =>
    obtain ⟨i, n, used, v, nb, out, hi, rfl, rfl, rfl, rfl, rfl, rfl, hn, hst⟩ := hrel
    have HI := Lib.hid hi
    have him : i ≤ m := by omega
    have l1 := hst.out.hv
    have l2 := hst.out.hnb
    have l3 : n ≤ R := by have := hst.out.hout; have := hn.out; omega
    have l4 := hst.out.hused
    obtain ⟨hcell, hfz, hoth⟩ := hst.out.cells T HG.out HU.out
    clear hi HST
    by_cases hlt : i < m
    · obtain ⟨x, hx⟩ : ∃ x, bs[i]? = some x := ⟨_, List.getElem?_eq_getElem (by have := HM.out; omega)⟩
      have hcx : wr.cell? ⟨b, s + i, none⟩ = some (.int .u8 (x.toNat : Int)) := (hoth b (s + i) hbg).trans (HS.out i x hx)
      have hdr := drop_cons hx
      have hx8 := x.toNat_lt
      have HX := Lib.hid hdr
      have heq := hst.out.eq
      rw [hdr] at heq
      have HEQ := Lib.hid heq
      clear hoth hx hdr heq
      by_cases hfull : R < n + 4
      · have q : Asc.dec R fl bs.length bs 0 0 0 0 [] = (out, used, none) := by rw [← HEQ.out, Asc.dec_full (by have := hn.out; omega)]
        have HQ := Lib.hid q
        clear q hcell
        go_wp2
        go_ret3
        exact ⟨out, used, none, HQ.out, by have := HM.out; omega, hst.out.hout, by rw [← hn.out]; rfl, hst.out.world⟩
      · have hroom : out.length + 4 ≤ R := by have := hn.out; omega
        have HROOM := Lib.hid hroom
        have hroom' : n + 4 ≤ R := by omega
        obtain ⟨z0, d0⟩ := hcell n (by omega)
        obtain ⟨z1, d1⟩ := hcell (n + 1) (by omega)
        obtain ⟨z2, d2⟩ := hcell (n + 2) (by omega)
        obtain ⟨z3, d3⟩ := hcell (n + 3) (by omega)
        clear hroom hcell hfull
        by_cases h32 : x.toNat ≤ 32
        · have q : Asc.dec R fl bs.length (x :: bs.drop (i + 1)) i used v nb out = Asc.dec R fl bs.length (bs.drop (i + 1)) (i + 1) used v nb out := by
            rw [Asc.dec, if_neg (by have := HROOM.out; omega), if_pos h32]
          have HST : Hid (DecSt w g R cs bs fl (i + 1) used v nb out wr) := ⟨by rw [← q]; exact HEQ.out, l1, l2, hst.out.hroom, hst.out.hout, by omega, hst.out.world⟩
          have t1 : decide ((x.toNat : Int) ≤ 32) = true := by simp; omega
          have t2 : (x.toNat : Int) ≤ 32 := by omega
          clear q
          go_wp2
          go_roundg (gk - 1)
          case measure => have := HI.out; omega
          case rel => exact ⟨i + 1, n, used, v, nb, out, by have := HI.out; omega, rfl, by go_num, rfl, rfl, rfl, rfl, hn, HST⟩
        · have t1 : decide ((x.toNat : Int) ≤ 32) = false := by simp; omega
          by_cases hz : x.toNat = 122 ∧ nb = 0
          · obtain ⟨hz1, rfl⟩ := hz
            have q : Asc.dec R fl bs.length (x :: bs.drop (i + 1)) i used v 0 out = Asc.dec R fl bs.length (bs.drop (i + 1)) (i + 1) (i + 1) 0 0 (out ++ [0, 0, 0, 0]) := by
              rw [Asc.dec, if_neg (by have := HROOM.out; omega), if_neg h32, if_pos ⟨hz1, rfl⟩]
            rw [← HX.out] at q
            have HST := Lib.hid (hst.out.four T HG.out HU.out n hn.out hroom' 0 0 0 0 0 0 0 0 rfl rfl rfl rfl q)
            have t3 : ((x.toNat : Int) == 122) = true := by rw [beq_iff_eq]; omega
            clear q hz1
            go_wp2
            go_roundg (gk - 1)
            case measure => have := HI.out; omega
            case rel => exact ⟨i + 1, n + 4, i + 1, 0, 0, _, by have := HI.out; omega, rfl, by go_num, by go_num, by go_num, rfl, rfl, by show _ = _; rw [List.length_append, ← hn.out]; rfl, HST⟩
          · by_cases h117 : x.toNat ≤ 117
            · have t3 : ((x.toNat : Int) == 122) = false := beq_eq_false_iff_ne.2 (by omega)
              have t4 : decide ((33 : Int) ≤ (x.toNat : Int)) = true := by simp; omega
              have t5 : decide ((x.toNat : Int) ≤ 117) = true := by simp; omega
              have t6 : (33 : Int) ≤ (x.toNat : Int) := by omega
              obtain ⟨p, ep⟩ : ∃ p, p = v * 85 % 4294967296 := ⟨_, rfl⟩
              obtain ⟨q, eq⟩ : ∃ q, q = (v * 85 + (x.toNat - 33)) % 4294967296 := ⟨_, rfl⟩
              have o1 : IntKind.u32.wrap ((v : Int) * 85) = (p : Int) := by rw [IntKind.wrap_u32]; omega
              have o2 : IntKind.u32.wrap ((p : Int) + ((x.toNat : Int) - 33)) = (q : Int) := by rw [IntKind.wrap_u32]; omega
              have lq : q < 4294967296 := by omega
              by_cases h4 : nb = 4
              · subst h4
                have hd := Asc.dec_last (room := R) (flush := fl) (len := bs.length) (r := bs.drop (i + 1)) (i := i) (used := used) (v := v) HROOM.out (by omega) h117 q eq.symm
                rw [← HX.out] at hd
                obtain ⟨y0, ey0⟩ : ∃ y, y = q / 16777216 := ⟨_, rfl⟩
                obtain ⟨y1, ey1⟩ : ∃ y, y = q / 65536 := ⟨_, rfl⟩
                obtain ⟨y2, ey2⟩ : ∃ y, y = q / 256 := ⟨_, rfl⟩
                obtain ⟨c1, ec1⟩ : ∃ y, y = (UInt8.ofNat y1).toNat := ⟨_, rfl⟩
                obtain ⟨c2, ec2⟩ : ∃ y, y = (UInt8.ofNat y2).toNat := ⟨_, rfl⟩
                obtain ⟨c3, ec3⟩ : ∃ y, y = (UInt8.ofNat q).toNat := ⟨_, rfl⟩
                have s0 : (q : Int) / 16777216 = (y0 : Int) := by omega
                have s1 : (q : Int) / 65536 = (y1 : Int) := by omega
                have s2 : (q : Int) / 256 = (y2 : Int) := by omega
                have r1 : IntKind.u8.wrap (y1 : Int) = (c1 : Int) := by rw [IntKind.wrap_u8, ec1, UInt8.toNat_ofNat']; omega
                have r2 : IntKind.u8.wrap (y2 : Int) = (c2 : Int) := by rw [IntKind.wrap_u8, ec2, UInt8.toNat_ofNat']; omega
                have r3 : IntKind.u8.wrap (q : Int) = (c3 : Int) := by rw [IntKind.wrap_u8, ec3, UInt8.toNat_ofNat']; omega
                have hy0 : (y0 : Int) = ((UInt8.ofNat y0).toNat : Int) := by rw [UInt8.toNat_ofNat']; omega
                have ly0 : y0 < 256 := by omega
                have hb4 : Asc.b4 q = [UInt8.ofNat y0, UInt8.ofNat y1, UInt8.ofNat y2, UInt8.ofNat q] := by rw [ey0, ey1, ey2]; rfl
                rw [hb4] at hd
                have HST := Lib.hid (hst.out.four T HG.out HU.out n hn.out hroom' (UInt8.ofNat y0) (UInt8.ofNat y1) (UInt8.ofNat y2) (UInt8.ofNat q) (y0 : Int) (c1 : Int) (c2 : Int) (c3 : Int) hy0 (by rw [ec1]) (by rw [ec2]) (by rw [ec3]) hd)
                clear hd ey0 ey1 ey2 ec1 ec2 ec3 hy0 hb4 ep eq
                go_wp2
                go_roundg (gk - 1)
                case measure => have := HI.out; omega
                case rel => exact ⟨i + 1, n + 4, i + 1, 0, 0, _, by have := HI.out; omega, rfl, by go_num, by go_num, by go_num, rfl, rfl, by show _ = _; rw [List.length_append, ← hn.out]; rfl, HST⟩
              · have hd := Asc.dec_digit (room := R) (flush := fl) (len := bs.length) (r := bs.drop (i + 1)) (i := i) (used := used) (v := v) HROOM.out (by omega) h117 (show nb < 4 by omega) q eq.symm
                have HST : Hid (DecSt w g R cs bs fl (i + 1) used q (nb + 1) out wr) := ⟨by rw [← hd]; exact HEQ.out, lq, by omega, fun _ => HROOM.out, hst.out.hout, by omega, hst.out.world⟩
                have t7 : ((nb : Int) + 1 == 5) = false := beq_eq_false_iff_ne.2 (by omega)
                clear hd ep eq
                go_wp2
                go_roundg (gk - 1)
                case measure => have := HI.out; omega
                case rel => exact ⟨i + 1, n, used, q, nb + 1, out, by have := HI.out; omega, rfl, by go_num, rfl, rfl, rfl, by go_num, hn, HST⟩
            · have q : Asc.dec R fl bs.length bs 0 0 0 0 [] = ([], 0, some i) := by
                rw [← HEQ.out, Asc.dec, if_neg (by have := HROOM.out; omega), if_neg h32, if_neg hz, if_neg h117]
              have HQ := Lib.hid q
              have t4 : decide ((33 : Int) ≤ (x.toNat : Int)) = true := by simp; omega
              have t5 : decide ((x.toNat : Int) ≤ 117) = false := by simp; omega
              clear q
              by_cases h122 : x.toNat = 122
              · have t3 : ((x.toNat : Int) == 122) = true := by rw [beq_iff_eq]; omega
                have t6 : ((nb : Int) == 0) = false := beq_eq_false_iff_ne.2 (by omega)
                have H122 := Lib.hid h122
                clear h122
                go_wp2
                go_ret3
                exact ⟨[], 0, some i, HQ.out, by omega, by simp, rfl, DecEnd.nil hst.out.world⟩
              · have t3 : ((x.toNat : Int) == 122) = false := beq_eq_false_iff_ne.2 (by omega)
                go_wp2
                go_ret3
                exact ⟨[], 0, some i, HQ.out, by omega, by simp, rfl, DecEnd.nil hst.out.world⟩
    · obtain rfl : i = m := by omega
      have hnil : bs.drop i = [] := List.drop_eq_nil_of_le (by have := HM.out; omega)
      have heq := hst.out.eq
      rw [hnil, Asc.dec] at heq
      have HEQ := Lib.hid heq
      clear heq hnil hlt
      cases fl with
      | false =>
        have q : Asc.dec R false bs.length bs 0 0 0 0 [] = (out, used, none) := by rw [← HEQ.out]; simp [Asc.fin]
        have HQ := Lib.hid q
        clear q hcell hoth
        go_wp2
        go_ret3
        exact ⟨out, used, none, HQ.out, by have := HM.out; omega, hst.out.hout, by rw [← hn.out]; rfl, hst.out.world⟩
      | true =>
        by_cases h0 : nb = 0
        · subst h0
          have q : Asc.dec R true bs.length bs 0 0 0 0 [] = (out, i, none) := by rw [← HEQ.out]; simp [Asc.fin, HM.out]
          have HQ := Lib.hid q
          clear q hcell hoth
          go_wp2
          go_ret3
          exact ⟨out, i, none, HQ.out, by have := HM.out; omega, hst.out.hout, by rw [← hn.out]; rfl, hst.out.world⟩
        · by_cases h1 : nb = 1
          · subst h1
            have q : Asc.dec R true bs.length bs 0 0 0 0 [] = ([], 0, some i) := by rw [← HEQ.out]; simp [Asc.fin, HM.out]
            have HQ := Lib.hid q
            clear q hcell hoth
            go_wp2
            go_ret3
            exact ⟨[], 0, some i, HQ.out, by omega, by simp, rfl, DecEnd.nil hst.out.world⟩
          · have hroom := hst.out.hroom h0
            have hroom' : n + 4 ≤ R := by have := hn.out; omega
            have HROOM := Lib.hid hroom
            obtain ⟨z0, d0⟩ := hcell n (by omega)
            obtain ⟨z1, d1⟩ := hcell (n + 1) (by omega)
            obtain ⟨z2, d2⟩ := hcell (n + 2) (by omega)
            have HW : Hid (DecEnd w g R cs out wr) := hst.out.world
            clear hroom hcell hoth
            have : nb = 2 ∨ nb = 3 ∨ nb = 4 := by omega
            rcases this with rfl | rfl | rfl
            · obtain ⟨p0, ep0⟩ : ∃ p, p = v * 85 % 4294967296 := ⟨_, rfl⟩
              obtain ⟨P0, eP0⟩ : ∃ p, p = (v * 85 + 84) % 4294967296 := ⟨_, rfl⟩
              have o10 : IntKind.u32.wrap ((v : Int) * 85) = (p0 : Int) := by rw [IntKind.wrap_u32]; omega
              have o20 : IntKind.u32.wrap ((p0 : Int) + 84) = (P0 : Int) := by rw [IntKind.wrap_u32]; omega
              have lP0 : P0 < 4294967296 := by omega
              obtain ⟨p1, ep1⟩ : ∃ p, p = P0 * 85 % 4294967296 := ⟨_, rfl⟩
              obtain ⟨P1, eP1⟩ : ∃ p, p = (P0 * 85 + 84) % 4294967296 := ⟨_, rfl⟩
              have o11 : IntKind.u32.wrap ((P0 : Int) * 85) = (p1 : Int) := by rw [IntKind.wrap_u32]; omega
              have o21 : IntKind.u32.wrap ((p1 : Int) + 84) = (P1 : Int) := by rw [IntKind.wrap_u32]; omega
              have lP1 : P1 < 4294967296 := by omega
              obtain ⟨p2, ep2⟩ : ∃ p, p = P1 * 85 % 4294967296 := ⟨_, rfl⟩
              obtain ⟨P2, eP2⟩ : ∃ p, p = (P1 * 85 + 84) % 4294967296 := ⟨_, rfl⟩
              have o12 : IntKind.u32.wrap ((P1 : Int) * 85) = (p2 : Int) := by rw [IntKind.wrap_u32]; omega
              have o22 : IntKind.u32.wrap ((p2 : Int) + 84) = (P2 : Int) := by rw [IntKind.wrap_u32]; omega
              have lP2 : P2 < 4294967296 := by omega
              have hpad : Asc.pad v 3 = P2 := by simp only [Asc.pad]; rw [eP2, eP1, eP0]
              have q : Asc.dec R true bs.length bs 0 0 0 0 [] = (out ++ [UInt8.ofNat (P2 / 16777216)], i, none) := by
                rw [← HEQ.out]; simp [Asc.fin, hpad, Asc.b4, HM.out]
              have HQ := Lib.hid q
              obtain ⟨y0, y1, y2, t1, t2, t3, k0, k1, k2, s1, s2, s3, u0, u1, u2, l0, l1', l2', lt1, lt2⟩ := shifts3 P2 lP2
              have HF := Lib.hid (HW.out.put T HG.out HU.out _ (y0 : Int) k0 n hn.out (by omega))
              clear q hpad ep0 eP0 ep1 eP1 ep2 eP2 k0 k1 k2
              go_wp2
              refine wp_loop_rounds 4 ?_
              iterate 4 (rw [rounds_succ]; go_wp2)
              refine wp_loop_rounds 2 ?_
              iterate 2 (rw [rounds_succ]; go_wp2)
              go_ret3
              refine ⟨_, i, none, HQ.out, by have := HM.out; omega, by simp; have := hn.out; omega, ?_, ?_⟩
              · refine ret3 ?_ rfl rfl
                simp [← hn.out]
              · have h := HF.out
                exact h
            · obtain ⟨p0, ep0⟩ : ∃ p, p = v * 85 % 4294967296 := ⟨_, rfl⟩
              obtain ⟨P0, eP0⟩ : ∃ p, p = (v * 85 + 84) % 4294967296 := ⟨_, rfl⟩
              have o10 : IntKind.u32.wrap ((v : Int) * 85) = (p0 : Int) := by rw [IntKind.wrap_u32]; omega
              have o20 : IntKind.u32.wrap ((p0 : Int) + 84) = (P0 : Int) := by rw [IntKind.wrap_u32]; omega
              have lP0 : P0 < 4294967296 := by omega
              obtain ⟨p1, ep1⟩ : ∃ p, p = P0 * 85 % 4294967296 := ⟨_, rfl⟩
              obtain ⟨P1, eP1⟩ : ∃ p, p = (P0 * 85 + 84) % 4294967296 := ⟨_, rfl⟩
              have o11 : IntKind.u32.wrap ((P0 : Int) * 85) = (p1 : Int) := by rw [IntKind.wrap_u32]; omega
              have o21 : IntKind.u32.wrap ((p1 : Int) + 84) = (P1 : Int) := by rw [IntKind.wrap_u32]; omega
              have lP1 : P1 < 4294967296 := by omega
              have hpad : Asc.pad v 2 = P1 := by simp only [Asc.pad]; rw [eP1, eP0]
              have q : Asc.dec R true bs.length bs 0 0 0 0 [] = (out ++ [UInt8.ofNat (P1 / 16777216), UInt8.ofNat (P1 / 65536)], i, none) := by
                rw [← HEQ.out]; simp [Asc.fin, hpad, Asc.b4, HM.out]
              have HQ := Lib.hid q
              obtain ⟨y0, y1, y2, t1, t2, t3, k0, k1, k2, s1, s2, s3, u0, u1, u2, l0, l1', l2', lt1, lt2⟩ := shifts3 P1 lP1
              have HF := Lib.hid ((HW.out.put T HG.out HU.out _ (y0 : Int) k0 n hn.out (by omega)).put T HG.out HU.out _ (y1 : Int) k1 (n + 1) (by simp; have := hn.out; omega) (by omega))
              clear q hpad ep0 eP0 ep1 eP1 k0 k1 k2
              go_wp2
              refine wp_loop_rounds 3 ?_
              iterate 3 (rw [rounds_succ]; go_wp2)
              refine wp_loop_rounds 3 ?_
              iterate 3 (rw [rounds_succ]; go_wp2)
              go_ret3
              refine ⟨_, i, none, HQ.out, by have := HM.out; omega, by simp; have := hn.out; omega, ?_, ?_⟩
              · refine ret3 ?_ rfl rfl
                simp [← hn.out]
                try omega
              · have h := HF.out
                simp only [List.append_assoc, List.cons_append, List.nil_append] at h
                exact h
            · obtain ⟨p0, ep0⟩ : ∃ p, p = v * 85 % 4294967296 := ⟨_, rfl⟩
              obtain ⟨P0, eP0⟩ : ∃ p, p = (v * 85 + 84) % 4294967296 := ⟨_, rfl⟩
              have o10 : IntKind.u32.wrap ((v : Int) * 85) = (p0 : Int) := by rw [IntKind.wrap_u32]; omega
              have o20 : IntKind.u32.wrap ((p0 : Int) + 84) = (P0 : Int) := by rw [IntKind.wrap_u32]; omega
              have lP0 : P0 < 4294967296 := by omega
              have hpad : Asc.pad v 1 = P0 := by simp only [Asc.pad]; rw [eP0]
              have q : Asc.dec R true bs.length bs 0 0 0 0 [] = (out ++ [UInt8.ofNat (P0 / 16777216), UInt8.ofNat (P0 / 65536), UInt8.ofNat (P0 / 256)], i, none) := by
                rw [← HEQ.out]; simp [Asc.fin, hpad, Asc.b4, HM.out]
              have HQ := Lib.hid q
              obtain ⟨y0, y1, y2, t1, t2, t3, k0, k1, k2, s1, s2, s3, u0, u1, u2, l0, l1', l2', lt1, lt2⟩ := shifts3 P0 lP0
              have HF := Lib.hid (((HW.out.put T HG.out HU.out _ (y0 : Int) k0 n hn.out (by omega)).put T HG.out HU.out _ (y1 : Int) k1 (n + 1) (by simp; have := hn.out; omega) (by omega)).put T HG.out HU.out _ (y2 : Int) k2 (n + 2) (by simp; have := hn.out; omega) (by omega))
              clear q hpad ep0 eP0 k0 k1 k2
              go_wp2
              refine wp_loop_rounds 2 ?_
              iterate 2 (rw [rounds_succ]; go_wp2)
              refine wp_loop_rounds 4 ?_
              iterate 4 (rw [rounds_succ]; go_wp2)
              go_ret3
              refine ⟨_, i, none, HQ.out, by have := HM.out; omega, by simp; have := hn.out; omega, ?_, ?_⟩
              · refine ret3 ?_ rfl rfl
                simp [← hn.out]
                try omega
              · have h := HF.out
                simp only [List.append_assoc, List.cons_append, List.nil_append] at h
                exact h

end Go.Proofs.YtemojkjcnkbpoaaGreatDoor

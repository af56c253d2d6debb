/-
  Several texts in one: ShaS, ShaR, ShaT, ShaT2, ShaU. Conditions: as each says.
-/
import Derived.Test.YtemojkjcnkbpoaaGreatDoorShaQ
import Derived.Test.YtemojkjcnkbpoaaGreatDoorFr
import Derived.Test.YtemojkjcnkbpoaaGreatDoorBits8
import Derived.Test.YtemojkjcnkbpoaaGreatDoorSlc
import Derived.Deep.RegionLaw
import Derived.Test.YtemojkjcnkbpoaaGreatDoorApp
/-
  Plain: a round of a digest's Read, as the sponge has it; a row that is filled from the left. No program here. No condition.
-/
namespace Go.Proofs.YtemojkjcnkbpoaaGreatDoor
open Spo
set_option linter.unusedVariables false

theorem read_step (rate : Nat) (s0 : S) (j k : Nat) (a n : _) (a2 : List UInt8) (n2 : Nat) (hs : sqzS kf rate j s0 = (a, n)) (hw : wet kf rate (a, n) = (a2, n2)) (hk : 0 < k) (hr : n2 + k ≤ rate) (hl : rate ≤ a2.length) :
    sqz kf rate (j + k) s0 = sqz kf rate j s0 ++ (a2.drop n2).take k ∧ sqzS kf rate (j + k) s0 = (a2, n2 + k) := by
  obtain ⟨h1, h2⟩ := sqz_add kf rate j k s0
  obtain ⟨h3, h4⟩ := wet_sqz kf rate k (sqzS kf rate j s0) hk (by omega)
  obtain ⟨h5, h6⟩ := sqz_chunk kf rate a2 n2 k hr hl
  rw [h1, h2, h3, h4, hs, hw, h5, h6]
  exact ⟨rfl, rfl⟩

theorem row_put {cs s ch : List Value} {o j k : Nat} (hs : s.length = j) (hch : ch.length = k) (hf : o + j + k ≤ cs.length) :
    (cs.take o ++ s ++ cs.drop (o + j)).take (o + j) ++ ch ++ (cs.take o ++ s ++ cs.drop (o + j)).drop (o + j + k) = cs.take o ++ (s ++ ch) ++ cs.drop (o + (j + k)) := by
  have h1 : (cs.take o ++ s).length = o + j := by rw [List.length_append, List.length_take, hs]; omega
  rw [List.take_append_of_le_length (by omega), List.take_of_length_le (by omega), List.drop_append, List.drop_eq_nil_of_le (by omega), List.nil_append, List.drop_drop, h1]
  have e : o + j + (o + j + k - (o + j)) = o + (j + k) := by omega
  rw [e]
  simp

theorem wet_len (rate : Nat) (a : List UInt8) (n : Nat) (hl : a.length = 200) (hn : n ≤ rate) (h0 : 0 < rate) (a2 : List UInt8) (n2 : Nat) (hw : wet kf rate (a, n) = (a2, n2)) : a2.length = 200 ∧ n2 < rate := by
  unfold wet at hw
  split at hw
  · injection hw with e1 e2
    subst e1 e2
    exact ⟨kf_len _, h0⟩
  · injection hw with e1 e2
    subst e1 e2
    rename_i h
    simp only at h
    exact ⟨hl, by omega⟩

/-- in the midst of a Read -/
structure RI (w0 w : World) (h : Nat) (T : TypeId) (rate ds out : Nat) (tl : List Value) (s0 : S) (b o m : Nat) (cs : Array Value) (Tb : TypeId) (A : Option Addr) (m' c' j : Nat) (a : List UInt8) (n : Nat) : Prop where
  dg : DG w h T a n rate ds out 1 tl
  hn : n ≤ rate
  st : sqzS kf rate j s0 = (a, n)
  hj : j + m' = m
  hmc : m' ≤ c'
  hc : c' ≤ 9223372036854775807
  adr : m' ≠ 0 → A = some ⟨b, o + j, none⟩
  blk : w.heap[b]? = some (.cells (cs.toList.take o ++ (sqz kf rate j s0).map bv ++ cs.toList.drop (o + j)).toArray Tb (0, 0))
  fr : Fr (fun k => k = h ∨ k = b) w0 w

/-- where the state is dry or full no more: behind the question whether to permute -/
structure RW (w0 w : World) (h : Nat) (T : TypeId) (rate ds out : Nat) (tl : List Value) (s0 : S) (b o : Nat) (cs : Array Value) (Tb : TypeId) (j : Nat) (a2 : List UInt8) (n2 : Nat) : Prop where
  dg : DG w h T a2 n2 rate ds out 1 tl
  blk : w.heap[b]? = some (.cells (cs.toList.take o ++ (sqz kf rate j s0).map bv ++ cs.toList.drop (o + j)).toArray Tb (0, 0))
  fr : Fr (fun k => k = h ∨ k = b) w0 w

end Go.Proofs.YtemojkjcnkbpoaaGreatDoor

/-
  SHA-3: padAndPermute: the sponge is turned round. No condition but a place below the rate.
-/
namespace Go.Proofs.YtemojkjcnkbpoaaGreatDoor
open Go.RowKit
open Spo
set_option linter.unusedVariables false

/-- the state with the last bits behind what it has drunk -/
def padA (a : List UInt8) (n rate : Nat) (x : UInt8) : List UInt8 := (a.set n (a.getD n 0 ^^^ x)).set (rate - 1) ((a.set n (a.getD n 0 ^^^ x)).getD (rate - 1) 0 ^^^ 128)

theorem xor8 (x y : UInt8) : bits .xor .u8 (y.toNat : Int) (x.toNat : Int) = ((y ^^^ x).toNat : Int) := by
  rw [bits_xor_u8_nat _ _ y.toNat_lt x.toNat_lt, UInt8.toNat_xor]

set_option maxRecDepth 100000 in
set_option maxHeartbeats 2000000 in
theorem pad_any {w : World} {h : Nat} {T : TypeId} {a : List UInt8} {n rate out : Nat} {tl : List Value} (x : UInt8) (d : DG w h T a n rate x.toNat out 0 tl) (hn : n < rate) (hr : rate ≤ 200) :
    Calls Tryz.prog 88 #[.pointer (some ⟨h, 0, none⟩)] w fun e w' => e = .returned (.tuple #[]) ∧ DG w' h T (kf (padA a n rate x)) 0 rate x.toNat out 1 tl ∧ w.grownBy w' (some h) := by
  have hl := d.len
  obtain ⟨c0, c1, c2, c3, c4⟩ := d.cs
  obtain ⟨y, hy⟩ : ∃ y, a[n]? = some y := ⟨_, List.getElem?_eq_getElem (by omega)⟩
  have hyd : a.getD n 0 = y := by rw [List.getD_eq_getElem?_getD, hy]; rfl
  have cn := d.byte hy
  unfold bv at cn
  have fn := d.fz n
  have o1 := xor8 x y
  have t1 : (0 : Int) ≤ (n : Int) := by omega
  have t2 : (n : Int) < 200 := by omega
  have t3 : n < 200 := by omega
  have HD := Lib.hid d
  have HY := Lib.hid hyd
  clear hy hyd d c1 c3 c4
  go_enter Tryz.func88, Tryz.ntmps88
  go_wp2_with fail
  go_region
  go_wp2_with fail
  obtain ⟨W, hW⟩ : ∃ W, (w.setCell ⟨h, n, none⟩ (.int .u8 ((y.toNat ^^^ x.toNat : Nat) : Int))).drew = W := ⟨_, rfl⟩
  have D1 : DG W h T (a.set n (y ^^^ x)) n rate x.toNat out 0 tl := by
    subst hW
    exact (HD.out.setA n t3 (y ^^^ x) _ (by rw [UInt8.toNat_xor])).keep rfl
  have G1 : w.grownBy W (some h) := by
    subst hW
    have g := grown_setCell w h n (.int .u8 ((y.toNat ^^^ x.toNat : Nat) : Int))
    exact ⟨g.os, g.tape, g.output, g.size, g.block⟩
  rw [hW]
  obtain ⟨a1, ha1⟩ : ∃ a1, a.set n (y ^^^ x) = a1 := ⟨_, rfl⟩
  rw [ha1] at D1
  have hl1 := D1.len
  obtain ⟨z, hz⟩ : ∃ z, a1[rate - 1]? = some z := ⟨_, List.getElem?_eq_getElem (by omega)⟩
  have hzd : a1.getD (rate - 1) 0 = z := by rw [List.getD_eq_getElem?_getD, hz]; rfl
  have cz := D1.byte hz
  unfold bv at cz
  have fz := D1.fz (rate - 1)
  obtain ⟨-, r1, -, -, -⟩ := D1.cs
  have z1 := z.toNat_lt
  have u0 : (rate : Int) - 1 = ((rate - 1 : Nat) : Int) := by omega
  have u1 : (0 : Int) ≤ ((rate - 1 : Nat) : Int) := by omega
  have u2 : ((rate - 1 : Nat) : Int) < 200 := by omega
  have u3 : rate - 1 < 200 := by omega
  have HD1 := Lib.hid D1
  have HG1 := Lib.hid G1
  have HA1 := Lib.hid ha1
  have HZ := Lib.hid hzd
  clear D1 G1 ha1 hz hzd hW c0 c2 cn fn o1 t1 t2
  obtain ⟨q, hq⟩ : ∃ q, q = rate - 1 := ⟨_, rfl⟩
  rw [← hq] at cz fz u0 u1 u2 u3 HZ
  have HQ := Lib.hid hq
  clear hq
  go_region
  have D2 : DG ((W.setCell ⟨h, q, none⟩ (.int .u8 (bits .xor .u8 (z.toNat : Int) 128))).drew) h T (padA a n rate x) n rate x.toNat out 0 tl := by
    have e : padA a n rate x = a1.set q (z ^^^ 128) := by unfold padA; rw [HY.out, HA1.out, ← HQ.out, HZ.out]
    rw [e]
    exact (HD1.out.setA q u3 (z ^^^ 128) _ (xor8 128 z)).keep rfl
  have G2 : w.grownBy ((W.setCell ⟨h, q, none⟩ (.int .u8 (bits .xor .u8 (z.toNat : Int) 128))).drew) (some h) := by
    have g := grown_trans HG1.out (grown_setCell W h q (.int .u8 (bits .xor .u8 (z.toNat : Int) 128)))
    exact ⟨g.os, g.tape, g.output, g.size, g.block⟩
  have HP := Lib.hid (permute_any D2)
  have HG2 := Lib.hid G2
  clear D2 G2 cz fz u0 u1 u2 r1
  go_wp2_with fail
  refine HP.out.mono ?_
  rintro e w3 ⟨rfl, D3, G3⟩
  obtain ⟨-, -, -, -, c4⟩ := D3.cs
  have f4 := D3.fz 204
  have HD3 := Lib.hid D3
  have HG3 := Lib.hid G3
  clear D3 G3 HP
  go_wp2_with fail
  go_end0
  exact ⟨rfl, HD3.out.setSt 1 1 rfl, grown_trans (grown_trans HG2.out HG3.out) (grown_setCell w3 h 204 _)⟩

end Go.Proofs.YtemojkjcnkbpoaaGreatDoor

/-
  SHA-3: readGeneric and read: the sponge is squeezed. No condition but where the bytes lie.
-/
namespace Go.Proofs.YtemojkjcnkbpoaaGreatDoor
open Go.RowKit
open Spo
set_option linter.unusedVariables false

/-- what is squeezed: the sponge turned round, if it has not been -/
def turned (st : Nat) (a : List UInt8) (n rate : Nat) (x : UInt8) : S := if st = 0 then (kf (padA a n rate x), 0) else (a, n)

theorem grown_fr {w w' : World} {h : Nat} (b : Nat) (g : w.grownBy w' (some h)) : Fr (fun k => k = h ∨ k = b) w w' :=
  ⟨g.os, g.tape, g.output, g.size, fun k hk hm => g.block k hk (fun e => hm (.inl (by injection e)))⟩

theorem copy_out {w : World} {h : Nat} {T : TypeId} {a2 : List UInt8} {n2 rate ds out st : Nat} {tl : List Value} (d : DG w h T a2 n2 rate ds out st tl) (b o m c k : Nat) (cur : Array Value) (Tb : TypeId)
    (hb : w.heap[b]? = some (.cells cur Tb (0, 0))) (hk : k = min m (rate - n2)) (hr : rate ≤ 200) (hn : n2 ≤ rate) (hf : o + k ≤ cur.size) :
    (Builtin.copy_ #[22, 22] 3 #[.slice (some ⟨b, o, none⟩) m c, .slice (some ⟨h, n2, none⟩) (rate - n2) (200 - n2)]).run Tryz.prog w = .ok (goInt k) (w.setRow b (cur.toList.take o ++ ((a2.drop n2).take k).map bv ++ cur.toList.drop (o + k)).toArray) := by
  have hl := d.len
  have e1 : (((a2.drop n2).take k).map bv).length = k := by rw [List.length_map, List.length_take, List.length_drop]; omega
  have hinfo : (Tryz.prog.info? 5).map (·.size) = some 1 := by kernel_rfl
  have := run_copy_row (P := Tryz.prog) w 22 22 3 5 b o m c ⟨h, n2, none⟩ (rate - n2) (200 - n2) cur Tb (((a2.drop n2).take k).map bv) Tryz.underlying22 hinfo hb (by rw [e1, hk, Nat.min_comm])
    (fun j v hj => by
      rw [addr_add]
      rw [List.getElem?_map, Option.map_eq_some_iff] at hj
      obtain ⟨x, hx, rfl⟩ := hj
      rw [List.getElem?_take] at hx
      split at hx
      · rw [List.getElem?_drop] at hx; exact d.byte hx
      · cases hx) (by rw [e1]; exact hf) (bv_one _)
  rw [e1] at this
  exact this

set_option maxRecDepth 100000 in
set_option maxHeartbeats 4000000 in
theorem readGeneric_any {w : World} {h : Nat} {T : TypeId} {a : List UInt8} {n rate out st : Nat} {tl : List Value} (x : UInt8) (d : DG w h T a n rate x.toNat out st tl) (hst : st = 0 ∧ n < rate ∨ st = 1 ∧ n ≤ rate) (b o m c : Nat) (cs : Array Value) (Tb : TypeId)
    (hb : w.heap[b]? = some (.cells cs Tb (0, 0))) (hbh : b ≠ h) (hf : o + m ≤ cs.size) (hmc : m ≤ c) (hc : c ≤ 9223372036854775807) (h0 : 0 < rate) (hr : rate ≤ 200) :
    Calls Tryz.prog 84 #[.pointer (some ⟨h, 0, none⟩), .slice (some ⟨b, o, none⟩) m c] w fun e w' => e = .returned (.tuple #[.int .i64 (m : Int), .nilIface]) ∧
      DG w' h T (sqzS kf rate m (turned st a n rate x)).1 (sqzS kf rate m (turned st a n rate x)).2 rate x.toNat out 1 tl ∧
      w'.heap[b]? = some (.cells (cs.toList.take o ++ (sqz kf rate m (turned st a n rate x)).map bv ++ cs.toList.drop (o + m)).toArray Tb (0, 0)) ∧ Fr (fun k => k = h ∨ k = b) w w' := by
  obtain ⟨s0, hs0⟩ : ∃ s0, turned st a n rate x = s0 := ⟨_, rfl⟩
  rw [hs0]
  have hbl : b < w.heap.size := (Array.getElem?_eq_some_iff.1 hb).1
  obtain ⟨-, -, -, -, c4⟩ := d.cs
  have HD := Lib.hid d
  have HS := Lib.hid hs0
  have HB := Lib.hid hb
  have start : ∀ w1 : World, Fr (fun k => k = h ∨ k = b) w w1 → w1.heap[b]? = some (.cells cs Tb (0, 0)) → DG w1 h T s0.1 s0.2 rate x.toNat out 1 tl → s0.2 ≤ rate → RI w w1 h T rate x.toNat out tl s0 b o m cs Tb (some ⟨b, o, none⟩) m c 0 s0.1 s0.2 := fun w1 f1 b1 d1 n1 =>
    ⟨d1, n1, rfl, by omega, hmc, hc, fun _ => rfl, by rw [sqz, List.map_nil, List.append_nil, Nat.add_zero, List.take_append_drop, Array.toArray_toList]; exact b1, f1⟩
  have START := Lib.hid start
  clear d hs0 hb start
  go_enter Tryz.func84, Tryz.ntmps84
  go_upto_if 11 with (fail)
  go_cut [] (fun wc => Hid (RI w wc h T rate x.toNat out tl s0 b o m cs Tb (some ⟨b, o, none⟩) m c 0 s0.1 s0.2))
  case first =>
    by_cases hz : st = 0
    · subst hz
      have HP := Lib.hid (pad_any x HD.out (by omega) hr)
      go_wp2_with fail
      refine HP.out.mono ?_
      rintro e w1 ⟨rfl, D1, G1⟩
      have R : Hid (RI w w1 h T rate x.toNat out tl s0 b o m cs Tb (some ⟨b, o, none⟩) m c 0 s0.1 s0.2) := by
        have e := HS.out
        unfold turned at e
        rw [if_pos rfl] at e
        refine START.out w1 (grown_fr b G1) ((G1.block b hbl (fun e => hbh (by injection e))).trans HB.out) ?_ ?_
        · rw [← e]; exact D1
        · rw [← e]; exact Nat.zero_le _
      clear D1 G1 HP
      go_wp2_with fail
      go_meet
      exact R
    · have t1 : ((st : Int) == 0) = false := by simp; omega
      have e := HS.out
      unfold turned at e
      rw [if_neg hz] at e
      have R : Hid (RI w w h T rate x.toNat out tl s0 b o m cs Tb (some ⟨b, o, none⟩) m c 0 s0.1 s0.2) := by
        obtain rfl : st = 1 := by omega
        refine START.out w (Fr.refl _ _) HB.out ?_ ?_
        · rw [← e]; exact HD.out
        · rw [← e]; show n ≤ rate; omega
      clear e
      go_wp2_with fail
      go_meet
      exact R
  case rest =>
    clear HD HS HB START c4 hst
    go_wp2_with fail
    go_loopg [1] m (fun gk v wr => ∃ (A' : Option Addr) (m' c' j : Nat) (a' : List UInt8) (n' : Nat), v = .slice A' m' c' ∧ gk = m' ∧ Hid (RI w wr h T rate x.toNat out tl s0 b o m cs Tb A' m' c' j a' n'))
    case atStart => exact ⟨_, _, _, _, _, _, rfl, rfl, hcut⟩
    case round =>
      obtain ⟨A', m', c', j, a', n', rfl, rfl, I⟩ := hrel
      have i1 := I.out.hmc
      have i2 := I.out.hc
      have i3 := I.out.hn
      have i4 := I.out.hj
      have hla := I.out.dg.len
      by_cases hg0 : gk = 0
      · subst hg0
        have R : Hid (DG wr h T (sqzS kf rate m s0).1 (sqzS kf rate m s0).2 rate x.toNat out 1 tl ∧ wr.heap[b]? = some (.cells (cs.toList.take o ++ (sqz kf rate m s0).map bv ++ cs.toList.drop (o + m)).toArray Tb (0, 0)) ∧ Fr (fun k => k = h ∨ k = b) w wr) := by
          obtain rfl : j = m := by omega
          refine ⟨?_, I.out.blk, I.out.fr⟩
          rw [I.out.st]; exact I.out.dg
        clear I i4
        go_wp2_with fail
        go_ret2
        exact ⟨rfl, R.out.1, R.out.2.1, R.out.2.2⟩
      · obtain ⟨a2, n2, hw⟩ : ∃ a2 n2, wet kf rate (a', n') = (a2, n2) := ⟨_, _, rfl⟩
        obtain ⟨hl2, hn2⟩ := wet_len rate a' n' hla i3 h0 a2 n2 hw
        have HW := Lib.hid hw
        have HL := Lib.hid hl2
        have hadr := I.out.adr hg0
        subst hadr
        obtain ⟨c0, c1, -, -, -⟩ := I.out.dg.cs
        have t1 : (0 : Int) < (gk : Int) := by omega
        have HJ := Lib.hid i4
        clear hw hl2 hla i4
        go_wp2_with fail
        go_quiet (fail)
        go_upto_if 27 with (fail)
        go_cut [] (fun wc => Hid (RW w wc h T rate x.toNat out tl s0 b o cs Tb j a2 n2))
        case first =>
          by_cases hfull : n' = rate
          · have u1 : ((n' : Int) == (rate : Int)) = true := by simp; omega
            have P2 : Hid (∀ q, Calls Tryz.prog 83 #[.pointer (some ⟨h, 0, none⟩)] (wr.drewN q) fun e w' => e = .returned (.tuple #[]) ∧ DG w' h T (kf a') 0 rate x.toNat out 1 tl ∧ wr.grownBy w' (some h)) := fun q =>
              (permute_any (I.out.dg.keep (w' := wr.drewN q) rfl)).mono fun e w' hh => ⟨hh.1, hh.2.1, ⟨hh.2.2.os, hh.2.2.tape, hh.2.2.output, hh.2.2.size, hh.2.2.block⟩⟩
            have HF := Lib.hid hfull
            clear hfull
            go_wp2_with ((go_at_call 83; refine (P2.out _).mono ?_; rintro e w3 ⟨rfl, D3, G3⟩; replace D3 := Lib.hid D3; replace G3 := Lib.hid G3))
            have R : Hid (RW w w3 h T rate x.toNat out tl s0 b o cs Tb j a2 n2) := by
              have e := HW.out
              unfold wet at e
              rw [if_pos HF.out] at e
              injection e with e1 e2
              subst e1 e2
              exact ⟨D3.out, (G3.out.block b (Nat.lt_of_lt_of_le hbl I.out.fr.size) (fun e => hbh (by injection e))).trans I.out.blk, I.out.fr.trans (grown_fr b G3.out) (fun _ _ h => h)⟩
            clear D3 G3 P2
            go_meet
            exact R
          · have u1 : ((n' : Int) == (rate : Int)) = false := by simp; omega
            have HF := Lib.hid hfull
            clear hfull
            have R : Hid (∀ q, RW w (wr.drewN q) h T rate x.toNat out tl s0 b o cs Tb j a2 n2) := fun q => by
              have e := HW.out
              unfold wet at e
              rw [if_neg HF.out] at e
              injection e with e1 e2
              subst e1 e2
              exact ⟨I.out.dg.keep rfl, I.out.blk, ⟨I.out.fr.os, I.out.fr.tape, I.out.fr.output, I.out.fr.size, I.out.fr.block⟩⟩
            go_wp2_with fail
            go_meet
            exact R.out _
        case rest =>
          clear c0 c1
          obtain ⟨k, hk⟩ : ∃ k, k = min gk (rate - n2) := ⟨_, rfl⟩
          have k0 : 0 < k := by omega
          have kg : k ≤ gk := by omega
          have kr : n2 + k ≤ rate := by omega
          have i4 := HJ.out
          have hcs : (cs.toList.take o ++ (sqz kf rate j s0).map bv ++ cs.toList.drop (o + j)).length = cs.size := by
            simp only [List.length_append, List.length_take, List.length_map, List.length_drop, sqz_len, Array.length_toList]; omega
          have hcp := copy_out (w := wc.drew) (hcut.out.dg.keep rfl) b (o + j) gk c' k _ Tb hcut.out.blk hk hr (by omega) (by rw [List.size_toArray, hcs]; omega)
          have hrow : ((cs.toList.take o ++ (sqz kf rate j s0).map bv ++ cs.toList.drop (o + j)).toArray.toList.take (o + j) ++ ((a2.drop n2).take k).map bv ++ (cs.toList.take o ++ (sqz kf rate j s0).map bv ++ cs.toList.drop (o + j)).toArray.toList.drop (o + j + k)) = cs.toList.take o ++ (sqz kf rate (j + k) s0).map bv ++ cs.toList.drop (o + (j + k)) := by
            rw [List.toList_toArray, row_put (by rw [List.length_map, sqz_len]) (by rw [List.length_map, List.length_take, List.length_drop, HL.out]; omega) (by rw [Array.length_toList]; omega),
              (read_step rate s0 j k a' n' a2 n2 I.out.st HW.out k0 kr (by rw [HL.out]; exact hr)).1, List.map_append]
          rw [hrow] at hcp
          obtain ⟨row, hrw⟩ : ∃ row, (cs.toList.take o ++ (sqz kf rate (j + k) s0).map bv ++ cs.toList.drop (o + (j + k))).toArray = row := ⟨_, rfl⟩
          rw [hrw] at hcp
          obtain ⟨c0, c1, -, -, -⟩ := hcut.out.dg.cs
          have HK := Lib.hid hk
          have HRW := Lib.hid hrw
          have t2 : (n2 : Int) ≤ (rate : Int) := by omega
          have t3 : (rate : Int) ≤ 200 := by omega
          have t4 : n2 ≤ rate := by omega
          have t5 : ¬ n2 = 200 := by omega
          have t7 : ¬ 200 = n2 := by omega
          clear hk hrow hrw hcs i4
          go_wp2_with fail
          go_region
          obtain ⟨W, hW⟩ : ∃ W, wc.drew.setRow b row = W := ⟨_, rfl⟩
          have hbw : wc.drew.heap[b]? = wc.heap[b]? := rfl
          have DW : DG W h T a2 n2 rate x.toNat out 1 tl := by
            subst hW
            exact hcut.out.dg.keep (heap_setRow_other wc.drew b h row (fun e => hbh e.symm))
          have BW : W.heap[b]? = some (.cells row Tb (0, 0)) := by
            subst hW
            exact setRow_heap wc.drew b _ row Tb (0, 0) hcut.out.blk
          have FW : Fr (fun k => k = h ∨ k = b) w W := by
            subst hW
            exact (hcut.out.fr.drew).setRow (.inr rfl) row
          rw [hW]
          have HBW := Lib.hid BW
          have HFW := Lib.hid FW
          have HDW := Lib.hid DW
          obtain ⟨c20, -, -, -, -⟩ := DW.cs
          have f20 := DW.fz 200
          clear hW hcp DW BW FW hbw c0 c1
          obtain ⟨A2, hA2, hs2⟩ := slice_lo (some ⟨b, o + j, none⟩) gk c' k kg i1
          have HA2 := Lib.hid hA2
          clear hA2
          go_wp2_with (simp only [hs2])
          go_roundg (gk - k)
          case measure => omega
          case rel =>
            obtain ⟨h5, h6⟩ := read_step rate s0 j k a' n' a2 n2 I.out.st HW.out k0 kr (by rw [HL.out]; exact hr)
            refine ⟨A2, _, _, j + k, a2, n2 + k, rfl, rfl, HDW.out.setN (n2 + k) _ (by omega), by omega, h6, by have := HJ.out; omega, by omega, by omega, ?_, ?_, HFW.out.setCell (.inl rfl) _⟩
            · intro hne
              rw [HA2.out b (o + j) rfl (by omega), Nat.add_assoc]
            · rw [Below.heap_setCell _ _ _ _ (fun e => hbh (by first | exact e | exact e.symm)), HBW.out, HRW.out]

end Go.Proofs.YtemojkjcnkbpoaaGreatDoor

/-
  SHA-3: the service indicator; read. No condition but where the bytes lie.
-/
namespace Go.Proofs.YtemojkjcnkbpoaaGreatDoor
open Go.RowKit
open Spo
set_option linter.unusedVariables false

theorem getInd (w : World) : (callFunc 76 #[]).run Tryz.prog w = .ok (.value (.int .u8 0)) w := by
  rw [run_callFunc_extern Tryz.func76 (by kernel_rfl) (by kernel_rfl) (by kernel_rfl) (e := fun _ => pure (.int .u8 0)) (by kernel_rfl)]
  rfl
theorem setInd (w : World) : (callFunc 77 #[.int .u8 2]).run Tryz.prog w = .ok (.value (.tuple #[])) w := by
  rw [run_callFunc_extern Tryz.func77 (by kernel_rfl) (by kernel_rfl) (by kernel_rfl) (e := fun _ => pure (.tuple #[])) (by kernel_rfl)]
  rfl

theorem record_any (w : World) : Calls Tryz.prog 73 #[] w fun e w' => e = .returned (.tuple #[]) ∧ w' = w := by
  have h1 := getInd w
  have h2 := setInd w
  go_enter Tryz.func73, Tryz.ntmps73
  go_wp2_with (first | simp only [h1] | simp only [h2])
  go_end0
  exact ⟨rfl, rfl⟩

set_option maxHeartbeats 1000000 in
theorem read_any {w : World} {h : Nat} {T : TypeId} {a : List UInt8} {n rate out st : Nat} {tl : List Value} (x : UInt8) (d : DG w h T a n rate x.toNat out st tl) (hst : st = 0 ∧ n < rate ∨ st = 1 ∧ n ≤ rate) (b o m c : Nat) (cs : Array Value) (Tb : TypeId)
    (hb : w.heap[b]? = some (.cells cs Tb (0, 0))) (hbh : b ≠ h) (hf : o + m ≤ cs.size) (hmc : m ≤ c) (hc : c ≤ 9223372036854775807) (h0 : 0 < rate) (hr : rate ≤ 200) :
    Calls Tryz.prog 81 #[.pointer (some ⟨h, 0, none⟩), .slice (some ⟨b, o, none⟩) m c] w fun e w' => e = .returned (.tuple #[.int .i64 (m : Int), .nilIface]) ∧
      DG w' h T (sqzS kf rate m (turned st a n rate x)).1 (sqzS kf rate m (turned st a n rate x)).2 rate x.toNat out 1 tl ∧
      w'.heap[b]? = some (.cells (cs.toList.take o ++ (sqz kf rate m (turned st a n rate x)).map bv ++ cs.toList.drop (o + m)).toArray Tb (0, 0)) ∧ Fr (fun k => k = h ∨ k = b) w w' := by
  have X := Lib.hid (readGeneric_any x d hst b o m c cs Tb hb hbh hf hmc hc h0 hr)
  clear d hst hb
  go_enter Tryz.func81, Tryz.ntmps81
  go_wp2_with fail
  refine X.out.mono ?_
  rintro e w1 ⟨rfl, D1, B1, F1⟩
  replace D1 := Lib.hid D1
  replace B1 := Lib.hid B1
  replace F1 := Lib.hid F1
  go_wp2_with fail
  go_ret2
  exact ⟨rfl, D1.out, B1.out, F1.out⟩

end Go.Proofs.YtemojkjcnkbpoaaGreatDoor

/-
  SHA-3: Clone, Sum through its wrappers. No condition but a place below the rate.
-/
namespace Go.Proofs.YtemojkjcnkbpoaaGreatDoor
open Go.RowKit
open Spo
set_option linter.unusedVariables false

theorem dgL_one (a : List UInt8) (n rate ds out st : Nat) : ∀ v ∈ dgL a n rate ds out st [], v.oneCell' = true := by
  intro v hv
  unfold dgL at hv
  rw [List.append_nil, List.mem_append] at hv
  rcases hv with hv | hv
  · exact bv_one _ v hv
  · simp only [List.mem_cons, List.not_mem_nil, or_false] at hv
    rcases hv with rfl | rfl | rfl | rfl | rfl <;> rfl

set_option maxRecDepth 100000 in
theorem zero205 : Tryz.zeroCells107.size = 205 := by kernel_rfl

set_option maxRecDepth 100000 in
set_option maxHeartbeats 1000000 in
theorem clone_any {w : World} {h : Nat} {T : TypeId} {a : List UInt8} {n rate ds out st : Nat} (d : DG w h T a n rate ds out st []) :
    Calls Tryz.prog 80 #[.pointer (some ⟨h, 0, none⟩)] w fun e w' => e = .returned (.pointer (some ⟨w.heap.size, 0, none⟩)) ∧ DG w' w.heap.size 107 a n rate ds out st [] ∧ Below w.heap.size w w' ∧ w'.heap.size = w.heap.size + 1 := by
  obtain ⟨cs, hcs⟩ : ∃ cs, (dgL a n rate ds out st []).toArray = cs := ⟨_, rfl⟩
  have hz : cs.size = 205 := by rw [← hcs, List.size_toArray, dgL_len d.len]; rfl
  have hb := d.blk
  rw [hcs] at hb
  have L := load_dg w h T cs hb hz
  have HL := Lib.hid d.len
  have HC := Lib.hid hcs
  have hone : ∀ v ∈ cs.toList, v.oneCell' = true := by rw [← hcs, List.toList_toArray]; exact dgL_one _ _ _ _ _ _
  have hst := run_storeCells_at Tryz.prog w.heap.size 0 107 cs.toList 0 Tryz.zeroCells107 (w.alloc (.cells Tryz.zeroCells107 107)) (heap_alloc_new w _) (by rw [Array.length_toList, hz, zero205]; omega) hone
  have e0 : (Tryz.zeroCells107.toList.take (0 + 0) ++ cs.toList ++ Tryz.zeroCells107.toList.drop (0 + 0 + cs.toList.length)).toArray = cs := by
    rw [List.drop_eq_nil_of_le (by rw [Array.length_toList, Array.length_toList, hz, zero205]; omega)]
    simp
  rw [e0] at hst
  clear hb hcs d hone e0
  go_enter Tryz.func80, Tryz.ntmps80
  go_upto_region 1 with fail
  go_wp2_with (refine wpList_run_load1 rfl 107 (.tmp 5) rfl (.pointer (some ⟨h, 0, none⟩)) (.agg cs) rfl L ?_)
  go_ret
  refine ⟨rfl, ⟨?_, HL.out⟩, ?_, by simp⟩
  · rw [HC.out]
    exact setRow_heap (w.alloc (.cells Tryz.zeroCells107 107)) w.heap.size _ _ _ (0, 0) (heap_alloc_new w _)
  · exact ⟨rfl, rfl, rfl, by simp, fun k hk => (heap_setRow_other _ _ _ _ (by omega)).trans (Below.heap_alloc w _ _ hk)⟩

def row64 : Array Value := (List.replicate 64 (Value.int .u8 0)).toArray
theorem row64_size : row64.size = 64 := by unfold row64; rw [List.size_toArray, List.length_replicate]
def OutOk (out : Nat) : Prop := out = 28 ∨ out = 32 ∨ out = 48 ∨ out = 64
set_option maxRecDepth 100000 in
theorem make_out {out : Nat} (ho : OutOk out) (W : World) : (Instr.makeSlice 22 (.int .i64 (out : Int)) (.int .i64 64)).run Tryz.prog W = .ok (.slice (some ⟨W.heap.size, 0, none⟩) out 64) (W.alloc (.cells row64 5)) := by
  rcases ho with rfl | rfl | rfl | rfl <;> kernel_rfl

def shaSum (a : List UInt8) (n rate out : Nat) : List UInt8 := sqz kf rate out (kf (padA a n rate 6), 0)

set_option maxRecDepth 100000 in
set_option maxHeartbeats 2000000 in
theorem sumGeneric_any {w : World} {h : Nat} {T : TypeId} {a : List UInt8} {n rate out : Nat} (d : DG w h T a n rate 6 out 0 []) (hn : n < rate) (hr : rate ≤ 200) (ho : OutOk out) :
    Calls Tryz.prog 78 #[.pointer (some ⟨h, 0, none⟩), .slice none 0 0] w fun e w' => ∃ g c, e = .returned (.slice (some ⟨g, 0, none⟩) out c) ∧ Own w' w.heap.size g c (shaSum a n rate out) ∧ Below w.heap.size w w' := by
  have hmk := fun W => make_out ho W
  have hpos : 0 < out ∧ out ≤ 64 := by unfold OutOk at ho; omega
  obtain ⟨-, -, -, -, c4⟩ := d.cs
  have X := Lib.hid (clone_any d)
  have hle : (shaSum a n rate out).length = out := by unfold shaSum; rw [sqz_len]
  have HLE := Lib.hid hle
  clear d ho hle
  go_enter Tryz.func78, Tryz.ntmps78
  go_wp2_with fail
  refine X.out.mono ?_
  rintro e w1 ⟨rfl, D1, B1, z1⟩
  obtain ⟨-, -, -, c3, -⟩ := D1.cs
  obtain ⟨hd, hhd⟩ : ∃ hd, hd = w.heap.size := ⟨_, rfl⟩
  rw [← hhd] at D1 c3 ⊢
  have hdl := D1.lt
  have z1l : w.heap.size < w1.heap.size := by omega
  have HHD := Lib.hid hhd
  have HD1 := Lib.hid D1
  have HB1 := Lib.hid B1
  clear D1 B1 X hhd c4 z1
  go_wp2_with fail
  obtain ⟨V, hV⟩ : ∃ V, w1.alloc (.cells row64 5) = V := ⟨_, rfl⟩
  obtain ⟨gb, hgb⟩ : ∃ gb, gb = w1.heap.size := ⟨_, rfl⟩
  have DV : DG V hd 107 a n rate (6 : UInt8).toNat out 0 [] := by subst hV; exact HD1.out.keep (Below.heap_alloc _ _ _ hdl)
  have BV : V.heap[gb]? = some (.cells row64 5 (0, 0)) := by subst hV hgb; exact heap_alloc_new w1 _
  have sV : V.heap.size = gb + 1 := by subst hV hgb; simp
  have bwV : Below w.heap.size w V := by subst hV; exact HB1.out.alloc (by omega) _
  rw [hV, ← hgb]
  have X := Lib.hid (read_any 6 DV (.inl ⟨rfl, hn⟩) gb 0 out 64 row64 5 BV (by have := HHD.out; omega) (by rw [row64_size]; omega) hpos.2 (by omega) (by omega) hr)
  have HBWV := Lib.hid bwV
  have hgbl : w.heap.size < gb := by omega
  clear hV DV BV bwV c3 hgb hmk
  go_wp2_with fail
  refine X.out.mono ?_
  rintro e w2 ⟨rfl, -, B2, F2⟩
  have z2 := F2.size
  have bw2 : Below w.heap.size w w2 := HBWV.out.trans (F2.toBelow (B := w.heap.size) HBWV.out.size (fun k hk e => by have := HHD.out; rcases e with e | e <;> omega))
  have rd2 : Rd w2 w2.heap.size (some ⟨gb, 0, none⟩) (shaSum a n rate out) := by
    refine .inr ⟨gb, 0, rfl, by omega, fun i y hy => ?_⟩
    rw [cell_of_row w2 gb _ _ _ _ B2, List.getElem?_toArray, List.take_zero, List.nil_append]
    simp only [Nat.zero_add]
    have hi : i < (shaSum a n rate out).length := (List.getElem?_eq_some_iff.1 hy).1
    have e : turned 0 a n rate 6 = (kf (padA a n rate 6), 0) := by unfold turned; rw [if_pos rfl]
    rw [e, List.getElem?_append_left (by rw [List.length_map, sqz_len]; rw [HLE.out] at hi; exact hi), List.getElem?_map]
    unfold shaSum at hy
    rw [hy]
    rfl
  have HRD := Lib.hid rd2
  have HBW2 := Lib.hid bw2
  clear X B2 F2 rd2 bw2
  have hne : shaSum a n rate out ≠ [] := fun e => by have := HLE.out; rw [e] at this; simp at this; omega
  have hll : (shaSum a n rate out).length ≤ 200000000000000 := by have := HLE.out; omega
  have hbs : w.heap.size ≤ w2.heap.size := by omega
  go_wp2_with (at_builtin; refine wpList_append_nil_bytes rfl _ _ 22 rfl Tryz.underlying22 w.heap.size (shaSum a n rate out) out rfl w2.heap.size (some ⟨gb, 0, none⟩) 64 rfl HLE.out.symm HRD.out hne hll hbs ?_; intro g4 c5 w4 h1 h2; refine Hid.out ?_)
  refine Lib.hid ?_
  have hgr : Below w.heap.size w w4 := HBW2.out.grown h2 hbs (fun k hk => by cases hk)
  rw [HLE.out]
  have H1 := Lib.hid h1
  clear h1 h2
  go_wp2_with fail
  go_ret
  exact ⟨g4, c5, rfl, H1.out, hgr⟩

set_option maxHeartbeats 1000000 in
theorem sum_any {w : World} {h : Nat} {T : TypeId} {a : List UInt8} {n rate out : Nat} (d : DG w h T a n rate 6 out 0 []) (hn : n < rate) (hr : rate ≤ 200) (ho : OutOk out) :
    Calls Tryz.prog 74 #[.pointer (some ⟨h, 0, none⟩), .slice none 0 0] w fun e w' => ∃ g c, e = .returned (.slice (some ⟨g, 0, none⟩) out c) ∧ Own w' w.heap.size g c (shaSum a n rate out) ∧ Below w.heap.size w w' := by
  have X := Lib.hid (sumGeneric_any d hn hr ho)
  
  clear d ho
  go_enter Tryz.func74, Tryz.ntmps74
  go_wp2_with (first |  (go_at_call 78; refine X.out.mono ?_; rintro e w1 ⟨g, c, rfl, O1, B1⟩; replace O1 := Lib.hid O1; replace B1 := Lib.hid B1))
  go_ret
  exact ⟨g, c, rfl, O1.out, B1.out⟩

set_option maxHeartbeats 1000000 in
theorem dSum_any {w : World} {h : Nat} {T : TypeId} {a : List UInt8} {n rate out : Nat} (d : DG w h T a n rate 6 out 0 []) (hn : n < rate) (hr : rate ≤ 200) (ho : OutOk out) :
    Calls Tryz.prog 70 #[.pointer (some ⟨h, 0, none⟩), .slice none 0 0] w fun e w' => ∃ g c, e = .returned (.slice (some ⟨g, 0, none⟩) out c) ∧ Own w' w.heap.size g c (shaSum a n rate out) ∧ Below w.heap.size w w' := by
  have X := Lib.hid (sum_any d hn hr ho)
  have Y := Lib.hid (record_any w)
  clear d ho
  go_enter Tryz.func70, Tryz.ntmps70
  go_wp2_with (first | (go_at_call 73; refine Y.out.mono ?_; rintro e w0 ⟨rfl, rfl⟩) | (go_at_call 74; refine X.out.mono ?_; rintro e w1 ⟨g, c, rfl, O1, B1⟩; replace O1 := Lib.hid O1; replace B1 := Lib.hid B1))
  go_ret
  exact ⟨g, c, rfl, O1.out, B1.out⟩

set_option maxHeartbeats 1000000 in
theorem sSum_any {w : World} {h : Nat} {T : TypeId} {a : List UInt8} {n rate out : Nat} (d : DG w h T a n rate 6 out 0 []) (hn : n < rate) (hr : rate ≤ 200) (ho : OutOk out) :
    Calls Tryz.prog 67 #[.pointer (some ⟨h, 0, none⟩), .slice none 0 0] w fun e w' => ∃ g c, e = .returned (.slice (some ⟨g, 0, none⟩) out c) ∧ Own w' w.heap.size g c (shaSum a n rate out) ∧ Below w.heap.size w w' := by
  have X := Lib.hid (dSum_any d hn hr ho)
  have Y := Lib.hid (init_any d (by unfold OutOk at ho; omega))
  clear d ho
  go_enter Tryz.func67, Tryz.ntmps67
  go_wp2_with (first | (go_at_call 69; refine Y.out.mono ?_; rintro e w0 ⟨rfl, rfl⟩) | (go_at_call 70; refine X.out.mono ?_; rintro e w1 ⟨g, c, rfl, O1, B1⟩; replace O1 := Lib.hid O1; replace B1 := Lib.hid B1))
  go_ret
  exact ⟨g, c, rfl, O1.out, B1.out⟩

end Go.Proofs.YtemojkjcnkbpoaaGreatDoor


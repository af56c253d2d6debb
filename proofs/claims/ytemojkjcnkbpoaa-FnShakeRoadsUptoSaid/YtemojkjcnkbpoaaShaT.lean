/-
  SHA-3: readGeneric and read: the sponge is squeezed. No condition but where the bytes lie.
-/
import Derived.Test.YtemojkjcnkbpoaaShaR
import Derived.Test.YtemojkjcnkbpoaaSlc
import Derived.Deep.RegionLaw
namespace Go.Proofs.Ytemojkjcnkbpoaa
open Go.RowKit
open Spo
set_option linter.unusedVariables false

/-- what is squeezed: the sponge turned round, if it has not been -/
def turned (st : Nat) (a : List UInt8) (n rate : Nat) (x : UInt8) : S := if st = 0 then (kf (padA a n rate x), 0) else (a, n)

theorem grown_fr {w w' : World} {h : Nat} (b : Nat) (g : w.grownBy w' (some h)) : Fr (fun k => k = h ∨ k = b) w w' :=
  ⟨g.os, g.tape, g.output, g.size, fun k hk hm => g.block k hk (fun e => hm (.inl (by injection e)))⟩

theorem copy_out {w : World} {h : Nat} {T : TypeId} {a2 : List UInt8} {n2 rate ds out st : Nat} {tl : List Value} (d : DG w h T a2 n2 rate ds out st tl) (b o m c k : Nat) (cur : Array Value) (Tb : TypeId)
    (hb : w.heap[b]? = some (.cells cur Tb (0, 0))) (hk : k = min m (rate - n2)) (hr : rate ≤ 200) (hn : n2 ≤ rate) (hf : o + k ≤ cur.size) :
    (Builtin.copy_ #[22, 22] 3 #[.slice (some ⟨b, o, none⟩) m c, .slice (some ⟨h, n2, none⟩) (rate - n2) (200 - n2)]).run Try.prog w = .ok (goInt k) (w.setRow b (cur.toList.take o ++ ((a2.drop n2).take k).map bv ++ cur.toList.drop (o + k)).toArray) := by
  have hl := d.len
  have e1 : (((a2.drop n2).take k).map bv).length = k := by rw [List.length_map, List.length_take, List.length_drop]; omega
  have hinfo : (Try.prog.info? 5).map (·.size) = some 1 := by kernel_rfl
  have := run_copy_row (P := Try.prog) w 22 22 3 5 b o m c ⟨h, n2, none⟩ (rate - n2) (200 - n2) cur Tb (((a2.drop n2).take k).map bv) Try.underlying22 hinfo hb (by rw [e1, hk, Nat.min_comm])
    (fun j v hj => by
      rw [addr_add]
      rw [List.getElem?_map, Option.map_eq_some_iff] at hj
      obtain ⟨x, hx, rfl⟩ := hj
      rw [List.getElem?_take] at hx
      split at hx
      · rw [List.getElem?_drop] at hx; exact d.byte hx
      · cases hx) (by rw [e1]; exact hf) (bv_one _)
  rw [e1] at this
  exact this

set_option maxRecDepth 100000 in
set_option maxHeartbeats 4000000 in
theorem readGeneric_any {w : World} {h : Nat} {T : TypeId} {a : List UInt8} {n rate out st : Nat} {tl : List Value} (x : UInt8) (d : DG w h T a n rate x.toNat out st tl) (hst : st = 0 ∧ n < rate ∨ st = 1 ∧ n ≤ rate) (b o m c : Nat) (cs : Array Value) (Tb : TypeId)
    (hb : w.heap[b]? = some (.cells cs Tb (0, 0))) (hbh : b ≠ h) (hf : o + m ≤ cs.size) (hmc : m ≤ c) (hc : c ≤ 9223372036854775807) (h0 : 0 < rate) (hr : rate ≤ 200) :
    Calls Try.prog 28 #[.pointer (some ⟨h, 0, none⟩), .slice (some ⟨b, o, none⟩) m c] w fun e w' => e = .returned (.tuple #[.int .i64 (m : Int), .nilIface]) ∧
      DG w' h T (sqzS kf rate m (turned st a n rate x)).1 (sqzS kf rate m (turned st a n rate x)).2 rate x.toNat out 1 tl ∧
      w'.heap[b]? = some (.cells (cs.toList.take o ++ (sqz kf rate m (turned st a n rate x)).map bv ++ cs.toList.drop (o + m)).toArray Tb (0, 0)) ∧ Fr (fun k => k = h ∨ k = b) w w' := by
  obtain ⟨s0, hs0⟩ : ∃ s0, turned st a n rate x = s0 := ⟨_, rfl⟩
  rw [hs0]
  have hbl : b < w.heap.size := (Array.getElem?_eq_some_iff.1 hb).1
  obtain ⟨-, -, -, -, c4⟩ := d.cs
  have HD := Lib.hid d
  have HS := Lib.hid hs0
  have HB := Lib.hid hb
  have start : ∀ w1 : World, Fr (fun k => k = h ∨ k = b) w w1 → w1.heap[b]? = some (.cells cs Tb (0, 0)) → DG w1 h T s0.1 s0.2 rate x.toNat out 1 tl → s0.2 ≤ rate → RI w w1 h T rate x.toNat out tl s0 b o m cs Tb (some ⟨b, o, none⟩) m c 0 s0.1 s0.2 := fun w1 f1 b1 d1 n1 =>
    ⟨d1, n1, rfl, by omega, hmc, hc, fun _ => rfl, by rw [sqz, List.map_nil, List.append_nil, Nat.add_zero, List.take_append_drop, Array.toArray_toList]; exact b1, f1⟩
  have START := Lib.hid start
  clear d hs0 hb start
  go_enter Try.func28, Try.ntmps28
  go_upto_if 11 with (fail)
  go_cut [] (fun wc => Hid (RI w wc h T rate x.toNat out tl s0 b o m cs Tb (some ⟨b, o, none⟩) m c 0 s0.1 s0.2))
  case first =>
    by_cases hz : st = 0
    · subst hz
      have HP := Lib.hid (pad_any x HD.out (by omega) hr)
      go_wp2_with fail
      refine HP.out.mono ?_
      rintro e w1 ⟨rfl, D1, G1⟩
      have R : Hid (RI w w1 h T rate x.toNat out tl s0 b o m cs Tb (some ⟨b, o, none⟩) m c 0 s0.1 s0.2) := by
        have e := HS.out
        unfold turned at e
        rw [if_pos rfl] at e
        refine START.out w1 (grown_fr b G1) ((G1.block b hbl (fun e => hbh (by injection e))).trans HB.out) ?_ ?_
        · rw [← e]; exact D1
        · rw [← e]; exact Nat.zero_le _
      clear D1 G1 HP
      go_wp2_with fail
      go_meet
      exact R
    · have t1 : ((st : Int) == 0) = false := by simp; omega
      have e := HS.out
      unfold turned at e
      rw [if_neg hz] at e
      have R : Hid (RI w w h T rate x.toNat out tl s0 b o m cs Tb (some ⟨b, o, none⟩) m c 0 s0.1 s0.2) := by
        obtain rfl : st = 1 := by omega
        refine START.out w (Fr.refl _ _) HB.out ?_ ?_
        · rw [← e]; exact HD.out
        · rw [← e]; show n ≤ rate; omega
      clear e
      go_wp2_with fail
      go_meet
      exact R
  case rest =>
    clear HD HS HB START c4 hst
    go_wp2_with fail
    go_loopg [1] m (fun gk v wr => ∃ (A' : Option Addr) (m' c' j : Nat) (a' : List UInt8) (n' : Nat), v = .slice A' m' c' ∧ gk = m' ∧ Hid (RI w wr h T rate x.toNat out tl s0 b o m cs Tb A' m' c' j a' n'))
    case atStart => exact ⟨_, _, _, _, _, _, rfl, rfl, hcut⟩
    case round =>
      obtain ⟨A', m', c', j, a', n', rfl, rfl, I⟩ := hrel
      have i1 := I.out.hmc
      have i2 := I.out.hc
      have i3 := I.out.hn
      have i4 := I.out.hj
      have hla := I.out.dg.len
      by_cases hg0 : gk = 0
      · subst hg0
        have R : Hid (DG wr h T (sqzS kf rate m s0).1 (sqzS kf rate m s0).2 rate x.toNat out 1 tl ∧ wr.heap[b]? = some (.cells (cs.toList.take o ++ (sqz kf rate m s0).map bv ++ cs.toList.drop (o + m)).toArray Tb (0, 0)) ∧ Fr (fun k => k = h ∨ k = b) w wr) := by
          obtain rfl : j = m := by omega
          refine ⟨?_, I.out.blk, I.out.fr⟩
          rw [I.out.st]; exact I.out.dg
        clear I i4
        go_wp2_with fail
        go_ret2
        exact ⟨rfl, R.out.1, R.out.2.1, R.out.2.2⟩
      · obtain ⟨a2, n2, hw⟩ : ∃ a2 n2, wet kf rate (a', n') = (a2, n2) := ⟨_, _, rfl⟩
        obtain ⟨hl2, hn2⟩ := wet_len rate a' n' hla i3 h0 a2 n2 hw
        have HW := Lib.hid hw
        have HL := Lib.hid hl2
        have hadr := I.out.adr hg0
        subst hadr
        obtain ⟨c0, c1, -, -, -⟩ := I.out.dg.cs
        have t1 : (0 : Int) < (gk : Int) := by omega
        have HJ := Lib.hid i4
        clear hw hl2 hla i4
        go_wp2_with fail
        go_quiet (fail)
        go_upto_if 27 with (fail)
        go_cut [] (fun wc => Hid (RW w wc h T rate x.toNat out tl s0 b o cs Tb j a2 n2))
        case first =>
          by_cases hfull : n' = rate
          · have u1 : ((n' : Int) == (rate : Int)) = true := by simp; omega
            have P2 : Hid (∀ q, Calls Try.prog 31 #[.pointer (some ⟨h, 0, none⟩)] (wr.drewN q) fun e w' => e = .returned (.tuple #[]) ∧ DG w' h T (kf a') 0 rate x.toNat out 1 tl ∧ wr.grownBy w' (some h)) := fun q =>
              (permute_any (I.out.dg.keep (w' := wr.drewN q) rfl)).mono fun e w' hh => ⟨hh.1, hh.2.1, ⟨hh.2.2.os, hh.2.2.tape, hh.2.2.output, hh.2.2.size, hh.2.2.block⟩⟩
            have HF := Lib.hid hfull
            clear hfull
            go_wp2_with ((go_at_call 31; refine (P2.out _).mono ?_; rintro e w3 ⟨rfl, D3, G3⟩; replace D3 := Lib.hid D3; replace G3 := Lib.hid G3))
            have R : Hid (RW w w3 h T rate x.toNat out tl s0 b o cs Tb j a2 n2) := by
              have e := HW.out
              unfold wet at e
              rw [if_pos HF.out] at e
              injection e with e1 e2
              subst e1 e2
              exact ⟨D3.out, (G3.out.block b (Nat.lt_of_lt_of_le hbl I.out.fr.size) (fun e => hbh (by injection e))).trans I.out.blk, I.out.fr.trans (grown_fr b G3.out) (fun _ _ h => h)⟩
            clear D3 G3 P2
            go_meet
            exact R
          · have u1 : ((n' : Int) == (rate : Int)) = false := by simp; omega
            have HF := Lib.hid hfull
            clear hfull
            have R : Hid (∀ q, RW w (wr.drewN q) h T rate x.toNat out tl s0 b o cs Tb j a2 n2) := fun q => by
              have e := HW.out
              unfold wet at e
              rw [if_neg HF.out] at e
              injection e with e1 e2
              subst e1 e2
              exact ⟨I.out.dg.keep rfl, I.out.blk, ⟨I.out.fr.os, I.out.fr.tape, I.out.fr.output, I.out.fr.size, I.out.fr.block⟩⟩
            go_wp2_with fail
            go_meet
            exact R.out _
        case rest =>
          clear c0 c1
          obtain ⟨k, hk⟩ : ∃ k, k = min gk (rate - n2) := ⟨_, rfl⟩
          have k0 : 0 < k := by omega
          have kg : k ≤ gk := by omega
          have kr : n2 + k ≤ rate := by omega
          have i4 := HJ.out
          have hcs : (cs.toList.take o ++ (sqz kf rate j s0).map bv ++ cs.toList.drop (o + j)).length = cs.size := by
            simp only [List.length_append, List.length_take, List.length_map, List.length_drop, sqz_len, Array.length_toList]; omega
          have hcp := copy_out (w := wc.drew) (hcut.out.dg.keep rfl) b (o + j) gk c' k _ Tb hcut.out.blk hk hr (by omega) (by rw [List.size_toArray, hcs]; omega)
          have hrow : ((cs.toList.take o ++ (sqz kf rate j s0).map bv ++ cs.toList.drop (o + j)).toArray.toList.take (o + j) ++ ((a2.drop n2).take k).map bv ++ (cs.toList.take o ++ (sqz kf rate j s0).map bv ++ cs.toList.drop (o + j)).toArray.toList.drop (o + j + k)) = cs.toList.take o ++ (sqz kf rate (j + k) s0).map bv ++ cs.toList.drop (o + (j + k)) := by
            rw [List.toList_toArray, row_put (by rw [List.length_map, sqz_len]) (by rw [List.length_map, List.length_take, List.length_drop, HL.out]; omega) (by rw [Array.length_toList]; omega),
              (read_step rate s0 j k a' n' a2 n2 I.out.st HW.out k0 kr (by rw [HL.out]; exact hr)).1, List.map_append]
          rw [hrow] at hcp
          obtain ⟨row, hrw⟩ : ∃ row, (cs.toList.take o ++ (sqz kf rate (j + k) s0).map bv ++ cs.toList.drop (o + (j + k))).toArray = row := ⟨_, rfl⟩
          rw [hrw] at hcp
          obtain ⟨c0, c1, -, -, -⟩ := hcut.out.dg.cs
          have HK := Lib.hid hk
          have HRW := Lib.hid hrw
          have t2 : (n2 : Int) ≤ (rate : Int) := by omega
          have t3 : (rate : Int) ≤ 200 := by omega
          have t4 : n2 ≤ rate := by omega
          have t5 : ¬ n2 = 200 := by omega
          have t7 : ¬ 200 = n2 := by omega
          clear hk hrow hrw hcs i4
          go_wp2_with fail
          go_region
          obtain ⟨W, hW⟩ : ∃ W, wc.drew.setRow b row = W := ⟨_, rfl⟩
          have hbw : wc.drew.heap[b]? = wc.heap[b]? := rfl
          have DW : DG W h T a2 n2 rate x.toNat out 1 tl := by
            subst hW
            exact hcut.out.dg.keep (heap_setRow_other wc.drew b h row (fun e => hbh e.symm))
          have BW : W.heap[b]? = some (.cells row Tb (0, 0)) := by
            subst hW
            exact setRow_heap wc.drew b _ row Tb (0, 0) hcut.out.blk
          have FW : Fr (fun k => k = h ∨ k = b) w W := by
            subst hW
            exact (hcut.out.fr.drew).setRow (.inr rfl) row
          rw [hW]
          have HBW := Lib.hid BW
          have HFW := Lib.hid FW
          have HDW := Lib.hid DW
          obtain ⟨c20, -, -, -, -⟩ := DW.cs
          have f20 := DW.fz 200
          clear hW hcp DW BW FW hbw c0 c1
          obtain ⟨A2, hA2, hs2⟩ := slice_lo (some ⟨b, o + j, none⟩) gk c' k kg i1
          have HA2 := Lib.hid hA2
          clear hA2
          go_wp2_with (simp only [hs2])
          go_roundg (gk - k)
          case measure => omega
          case rel =>
            obtain ⟨h5, h6⟩ := read_step rate s0 j k a' n' a2 n2 I.out.st HW.out k0 kr (by rw [HL.out]; exact hr)
            refine ⟨A2, _, _, j + k, a2, n2 + k, rfl, rfl, HDW.out.setN (n2 + k) _ (by omega), by omega, h6, by have := HJ.out; omega, by omega, by omega, ?_, ?_, HFW.out.setCell (.inl rfl) _⟩
            · intro hne
              rw [HA2.out b (o + j) rfl (by omega), Nat.add_assoc]
            · rw [Below.heap_setCell _ _ _ _ (fun e => hbh (by first | exact e | exact e.symm)), HBW.out, HRW.out]

end Go.Proofs.Ytemojkjcnkbpoaa

/-
  subtle.XORBytes into a piece of a digest's state. No condition but where the bytes lie.
-/
import Derived.Test.YtemojkjcnkbpoaaShaX
import Derived.Deep.RegionWith
import Derived.Deep.DeepCutAuto
import Derived.Deep.QuietTactic
import Derived.BigQuiet
import Derived.StillTailTactics
namespace Go.Proofs.Ytemojkjcnkbpoaa
open Go.RowKit
set_option linter.unusedVariables false

theorem overlap_call (b o b' o' n c n' c' : Nat) (w : World) (cs cs' : Array Value) (T T' : TypeId) (hb : w.heap[b]? = some (.cells cs T (0, 0))) (hb' : w.heap[b']? = some (.cells cs' T' (0, 0))) (hne : b ≠ b') (hs' : cs'.size ≠ 0) :
    (callFunc 36 #[.slice (some ⟨b, o, none⟩) n c, .slice (some ⟨b', o', none⟩) n' c']).run Try.prog w = .ok (.value (.bool false)) w := by
  rw [run_callFunc_extern Try.func36 (by kernel_rfl) (by kernel_rfl) (by kernel_rfl) (e := Extern.SlicesOverlaps.overlaps #[22, 22] #[4]) (by kernel_rfl),
    Lib.run_overlaps_apart w 22 4 5 Try.underlying22 1 (fun _ => by kernel_rfl) ⟨b, o, none⟩ ⟨b', o', none⟩ n c n' c' hne T T' cs.size cs'.size (by simp [World.shape?, hb]) (by simp [World.shape?, hb']) hs' (frozen_of_row w b o cs T hb) (frozen_of_row w b cs.size cs T hb)]
  rfl

set_option maxHeartbeats 1000000 in
theorem inexact_apart (b o b' o' n c n' c' : Nat) (w : World) (cs cs' : Array Value) (T T' : TypeId) (hb : w.heap[b]? = some (.cells cs T (0, 0))) (hb' : w.heap[b']? = some (.cells cs' T' (0, 0))) (hne : b ≠ b') (hs' : cs'.size ≠ 0) (hn : 0 < n) (hn' : 0 < n') :
    Calls Try.prog 34 #[.slice (some ⟨b, o, none⟩) n c, .slice (some ⟨b', o', none⟩) n' c'] w fun e w' => e = .returned (.bool false) ∧ w' = w.drew := by
  obtain ⟨j, hj, hsz⟩ := u8info
  have he := run_eql_ptr_other (P := Try.prog) w.drew (a := ⟨b, o, none⟩) (b := ⟨b', o', none⟩) Try.underlying56 hj hsz (fun e => hne (by injection e)) hb hb'
  have hc := overlap_call b o b' o' n c n' c' w.drew cs cs' T T' hb hb' hne hs'
  have t1 : ((n : Int) == 0) = false := by simp; omega
  have t2 : ((n' : Int) == 0) = false := by simp; omega
  have t3 : (0 : Int) < (n : Int) := by omega
  have t4 : (0 : Int) < (n' : Int) := by omega
  clear hb hb' hj
  go_enter Try.func34, Try.ntmps34
  go_wp2
  go_region
  go_wp2_with (simp only [hc])
  go_ret
  exact ⟨rfl, rfl⟩

theorem xor_call {w : World} {h : Nat} {T : TypeId} {a : List UInt8} {n rate ds out st : Nat} {tl : List Value} (d : DG w h T a n rate ds out st tl) (o b s k : Nat) (p : List UInt8) (hk : k = p.length) (ho : o + k ≤ 200) (hp : ∀ i z, p[i]? = some z → w.cell? ⟨b, s + i, none⟩ = some (bv z)) :
    ∃ w', (callFunc 35 #[.pointer (some ⟨h, o, none⟩), .pointer (some ⟨h, o, none⟩), .pointer (some ⟨b, s, none⟩), .int .i64 (k : Int)]).run Try.prog w = .ok (.value (.tuple #[])) w' ∧
      DG w' h T (a.take o ++ xorL ((a.drop o).take k) p ++ a.drop (o + k)) n rate ds out st tl ∧ w.grownBy w' (some h) := by
  have hl := d.len
  have hx : ((a.drop o).take k).length = k := by rw [List.length_take, List.length_drop]; omega
  have hxl := xorL_len ((a.drop o).take k) p (by omega)
  refine ⟨w.setRow h ((dgL a n rate ds out st tl).take o ++ (xorL ((a.drop o).take k) p).map bv ++ (dgL a n rate ds out st tl).drop (o + (xorL ((a.drop o).take k) p).length)).toArray, ?_, ?_, ?_⟩
  · rw [run_callFunc_extern Try.func35 (by kernel_rfl) (by kernel_rfl) (by kernel_rfl) (e := Extern.CryptoHooks.xorBytes) (by kernel_rfl),
      run_xorBytes w h o b s k _ T ((a.drop o).take k) p d.blk hx hk.symm (fun i z hz => ?_) (by rw [List.size_toArray, dgL_len hl]; omega) hp, hxl, hx]
    · rfl
    · rw [List.getElem?_toArray, dgL_at hl, if_pos (by have := (List.getElem?_eq_some_iff.1 hz).1; omega), List.getElem?_map]
      rw [List.getElem?_take] at hz
      split at hz
      · rw [List.getElem?_drop] at hz; rw [hz]; rfl
      · cases hz
  · have := d.put o (xorL ((a.drop o).take k) p) (by omega)
    rw [hxl, hx] at this ⊢
    exact this
  · exact ⟨rfl, rfl, rfl, by simp, fun k _ hk => heap_setRow_other _ _ _ _ (fun e => hk (by rw [e]))⟩

set_option maxRecDepth 100000 in
set_option maxHeartbeats 2000000 in
theorem xorBytes_any {w : World} {h : Nat} {T : TypeId} {a : List UInt8} {n rate ds out st : Nat} {tl : List Value} (d : DG w h T a n rate ds out st tl) (o L C b s m c k : Nat) (cs : Array Value) (T' : TypeId) (p : List UInt8) (hm : m = p.length) (hb : w.heap[b]? = some (.cells cs T' (0, 0))) (hbh : b ≠ h) (hp : ∀ i z, p[i]? = some z → cs[s + i]? = some (bv z))
    (hk : k = min L m) (hk0 : 0 < k) (hLC : L ≤ C) (hmc : m ≤ c) (hc : c ≤ 9223372036854775807) (hC : C ≤ 200) (ho : o + L ≤ 200) :
    Calls Try.prog 32 #[.slice (some ⟨h, o, none⟩) L C, .slice (some ⟨h, o, none⟩) L C, .slice (some ⟨b, s, none⟩) m c] w fun e w' => e = .returned (.int .i64 (k : Int)) ∧ DG w' h T (a.take o ++ xorL ((a.drop o).take k) (p.take k) ++ a.drop (o + k)) n rate ds out st tl ∧ w.grownBy w' (some h) := by
  have hcs : cs.size ≠ 0 := by
    have h1 : 0 < p.length := by omega
    have := hp 0 p[0] (List.getElem?_eq_getElem h1)
    have := (Array.getElem?_eq_some_iff.1 this).1
    omega
  have HD := Lib.hid d
  have HB := Lib.hid hb
  have HP := Lib.hid hp
  have HM := Lib.hid hm
  have HK := Lib.hid hk
  have hkL : k ≤ L := by omega
  have hkm : k ≤ m := by omega
  have t1 : ((k : Int) == 0) = false := by simp; omega
  have t2 : ¬ (L : Int) < (k : Int) := by omega
  have t3 : (0 : Int) ≤ (k : Int) := by omega
  have t4 : (k : Int) ≤ (C : Int) := by omega
  have t5 : (k : Int) ≤ (c : Int) := by omega
  have t6 : (0 : Int) < (L : Int) := by omega
  have t8 : 0 < L := by omega
  have t9 : 0 < m := by omega
  have t7 : (0 : Int) < (m : Int) := by omega
  have C1 : Hid (∀ q, Calls Try.prog 34 #[.slice (some ⟨h, o, none⟩) k C, .slice (some ⟨h, o, none⟩) k C] (w.drewN q) fun e w' => e = .returned (.bool false) ∧ ∃ m, w' = w.drewN m) := fun q => (inexact_same ⟨h, o, none⟩ k C k C (w.drewN q) hk0 hk0 rfl).mono fun e w1 hh => ⟨hh.1, q + 1, by rw [hh.2]; rfl⟩
  have C2 : Hid (∀ q, Calls Try.prog 34 #[.slice (some ⟨h, o, none⟩) k C, .slice (some ⟨b, s, none⟩) k c] (w.drewN q) fun e w' => e = .returned (.bool false) ∧ ∃ m, w' = w.drewN m) := fun q => (inexact_apart h o b s k C k c (w.drewN q) _ cs T T' d.blk hb (fun e => hbh e.symm) hcs hk0 hk0).mono fun e w1 hh => ⟨hh.1, q + 1, by rw [hh.2]; rfl⟩
  clear d hb hp hm
  go_enter Try.func32, Try.ntmps32
  go_upto_region 2 with (fail)
  go_cut [7, 14] (fun x y wc => x = .int .i64 (k : Int) ∧ y = .bool false ∧ wc = w)
  case first =>
    go_wp2_with fail
    all_goals (go_meet; refine ⟨?_, ?_, rfl⟩ <;> congr 1 <;> first | omega | (simp; omega))
  case rest =>
    obtain ⟨rfl, rfl, rfl⟩ := hcut
    clear hk
    go_wp2_with fail
    go_quiet ((go_at_call 34; first | with_reducible exact C1.out _ | with_reducible exact C2.out _))
    go_wp2_with fail
    have d0 := HD.out
    have d1 : DG (wc.drewN nq).drew h T a n rate ds out st tl := d0.keep rfl
    obtain ⟨W, hW⟩ : ∃ W, (wc.drewN nq).drew = W := ⟨_, rfl⟩
    rw [hW] at d1
    obtain ⟨w', e1, D', G⟩ := xor_call d1 o b s k (p.take k) (by rw [List.length_take]; have := HM.out; omega) (by omega) (fun i z hz => by
      rw [List.getElem?_take] at hz
      split at hz
      · have := HP.out i z hz
        rw [← hW]
        exact (cell_of_row _ b _ cs T' (0, 0) HB.out).trans this
      · cases hz)
    have E1 := Lib.hid D'
    have E2 := Lib.hid G
    clear D' G d0 d1
    go_still_tail 7, (by kernel_rfl)
    change wpList _ _ _ _ _ (wc.drewN nq).drew
    rw [hW]
    go_wp2_with (simp only [e1])
    go_ret
    refine ⟨rfl, E1.out, ?_⟩
    have := E2.out
    rw [← hW] at this
    obtain ⟨q1, q2, q3, q4, q5⟩ := this
    exact ⟨q1, q2, q3, q4, q5⟩
end Go.Proofs.Ytemojkjcnkbpoaa

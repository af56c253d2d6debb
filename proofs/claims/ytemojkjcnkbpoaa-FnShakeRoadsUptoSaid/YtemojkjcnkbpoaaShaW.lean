/-
  SHA-3: (*Digest).writeGeneric: the sponge drinks. No condition but where the bytes lie.
-/
import Derived.Test.YtemojkjcnkbpoaaShaY
import Derived.Test.YtemojkjcnkbpoaaShaP
import Derived.Test.YtemojkjcnkbpoaaSlc
namespace Go.Proofs.Ytemojkjcnkbpoaa
open Go.RowKit
open Spo
set_option linter.unusedVariables false

/-- in the midst of a Write -/
structure WI (w0 w : World) (h : Nat) (T : TypeId) (rate ds out : Nat) (tl : List Value) (F : S) (r : List UInt8) (A : Option Addr) (m c : Nat) (a : List UInt8) (n : Nat) : Prop where
  dg : DG w h T a n rate ds out 0 tl
  hn : n < rate
  hm : m = r.length
  hmc : m ≤ c
  hc : c ≤ 9223372036854775807
  src : Src w h A r
  fin : absorb kf rate (a, n) r = F
  gr : w0.grownBy w (some h)

theorem Src.lt {w : World} {h b o : Nat} {p : List UInt8} {cs : Array Value} {T : TypeId} (hb : w.heap[b]? = some (.cells cs T (0, 0))) : b < w.heap.size := (Array.getElem?_eq_some_iff.1 hb).1

theorem grown_trans {w0 w w' : World} {h : Nat} (g : w0.grownBy w (some h)) (g' : w.grownBy w' (some h)) : w0.grownBy w' (some h) :=
  ⟨g'.os.trans g.os, g'.tape.trans g.tape, g'.output.trans g.output, Nat.le_trans g.size g'.size, fun k hk hr => (g'.block k (Nat.lt_of_lt_of_le hk g.size) hr).trans (g.block k hk hr)⟩

theorem grown_setCell (w : World) (h i : Nat) (v : Value) : w.grownBy (w.setCell ⟨h, i, none⟩ v) (some h) :=
  ⟨rfl, rfl, rfl, by simp [World.setCell], fun k hk hr => Below.heap_setCell _ _ _ _ (fun e => hr (by rw [e]))⟩

set_option maxRecDepth 100000 in
set_option maxHeartbeats 4000000 in
theorem writeGeneric_any {w : World} {h : Nat} {T : TypeId} {a : List UInt8} {n rate ds out : Nat} {tl : List Value} (d : DG w h T a n rate ds out 0 tl) (A : Option Addr) (m c : Nat) (p : List UInt8) (hm : m = p.length) (hs : Src w h A p) (hmc : m ≤ c) (hc : c ≤ 9223372036854775807) (hn : n < rate) (hr : rate ≤ 200) :
    Calls Try.prog 29 #[.pointer (some ⟨h, 0, none⟩), .slice A m c] w fun e w' => e = .returned (.tuple #[.int .i64 (m : Int), .nilIface]) ∧ DG w' h T (absorb kf rate (a, n) p).1 (absorb kf rate (a, n) p).2 rate ds out 0 tl ∧ w.grownBy w' (some h) := by
  obtain ⟨F, hF⟩ : ∃ F, absorb kf rate (a, n) p = F := ⟨_, rfl⟩
  rw [hF]
  have W0 := Lib.hid (WI.mk (w0 := w) d hn hm hmc hc hs hF (World.grownBy.refl w (some h)))
  obtain ⟨c0, c1, c2, c3, c4⟩ := d.cs
  clear hF hs hm hn d c0 c1 c2 c3
  go_enter Try.func29, Try.ntmps29
  go_wp2_with fail
  clear c4
  go_loopg [1] m (fun gk x wr => ∃ (r : List UInt8) (A' : Option Addr) (m' c' : Nat) (a' : List UInt8) (n' : Nat), x = .slice A' m' c' ∧ gk = m' ∧ Hid (WI w wr h T rate ds out tl F r A' m' c' a' n'))
  case atStart => exact ⟨p, A, m, c, a, n, rfl, rfl, W0⟩
  case round =>
    clear W0 hmc hc
    obtain ⟨r, A', m', c', a', n', rfl, rfl, I⟩ := hrel
    have i1 := I.out.hmc
    have i2 := I.out.hc
    have i3 := I.out.hn
    by_cases hg0 : gk = 0
    · subst hg0
      have hr : r = [] := List.eq_nil_of_length_eq_zero I.out.hm.symm
      go_wp2_with fail
      go_ret2
      have e := I.out.fin
      rw [hr, absorb] at e
      rw [← e]
      exact ⟨rfl, I.out.dg, I.out.gr⟩
    · rcases I.out.src with e | ⟨b, s, cs, T', rfl, hb, hbh, hcc⟩
      · exact absurd (I.out.hm.trans (by rw [e]; rfl)) hg0
      have d1 : DG wr.drew h T a' n' rate ds out 0 tl := I.out.dg.keep rfl
      obtain ⟨c0, c1, -, -, -⟩ := d1.cs
      obtain ⟨k, hk⟩ : ∃ k, k = min (rate - n') gk := ⟨_, rfl⟩
      have k0 : 0 < k := by omega
      have kg : k ≤ gk := by omega
      have kr : n' + k ≤ rate := by omega
      have X := xorBytes_any d1 n' (rate - n') (200 - n') b s gk c' k cs T' r I.out.hm hb hbh hcc hk k0 (by omega) i1 i2 (by omega) (by omega)
      obtain ⟨W, hW⟩ : ∃ W, wr.drew = W := ⟨_, rfl⟩
      rw [hW] at X c0 c1
      have HX := Lib.hid X
      have HK := Lib.hid hk
      have HC := Lib.hid hcc
      have HB := Lib.hid hb
      clear X hcc hb hk d1
      have t1 : (0 : Int) < (gk : Int) := by omega
      have t2 : (n' : Int) ≤ (rate : Int) := by omega
      have t3 : (rate : Int) ≤ 200 := by omega
      have t4 : n' ≤ rate := by omega
      have t5 : ¬ n' = 200 := by omega
      have t6 : 0 < gk := by omega
      have t7 : ¬ 200 = n' := by omega
      go_wp2_with fail
      refine wp_region_still_tail 25 (by kernel_rfl) (by kernel_rfl) ?_
      have hV : ({ wr with drawn := wr.drawn + 1 } : World) = W := hW
      rw [hV]
      clear hV
      simp only [List.take_succ_cons, List.take_zero, List.drop_succ_cons, List.drop_zero]
      repeat still_step
      refine wpStill_nil ?_
      go_upto_region 7 with ((go_at_call 32; refine HX.out.mono ?_; rintro e w1 ⟨rfl, D1, G1⟩; obtain ⟨e0, e1, -, -, -⟩ := D1.cs; have f0 := D1.fz 200; replace D1 := Lib.hid D1; replace G1 := Lib.hid G1))
      obtain ⟨N, hN⟩ : ∃ N, n' + k = N := ⟨_, rfl⟩
      have D2 := D1.out.setN N ((n' : Int) + (k : Int)) (by omega)
      have G2 : w.grownBy (w1.setCell ⟨h, 200, none⟩ (.int .i64 ((n' : Int) + (k : Int)))) (some h) := by
        have g0 := I.out.gr
        have g1 := G1.out
        rw [← hW] at g1
        have g2 : wr.grownBy w1 (some h) := ⟨g1.os, g1.tape, g1.output, g1.size, g1.block⟩
        exact grown_trans (grown_trans g0 g2) (grown_setCell w1 h 200 _)
      have B2 : (w1.setCell ⟨h, 200, none⟩ (.int .i64 ((n' : Int) + (k : Int)))).heap[b]? = some (.cells cs T' (0, 0)) := by
        have g1 := G1.out
        rw [← hW] at g1
        rw [Below.heap_setCell _ _ _ _ (fun e => hbh (by first | exact e | exact e.symm))]
        exact (g1.block b (Src.lt (h := 0) (o := 0) (p := []) HB.out) (fun e => hbh (by injection e))).trans HB.out
      obtain ⟨w2, hw2⟩ : ∃ w2, w1.setCell ⟨h, 200, none⟩ (.int .i64 ((n' : Int) + (k : Int))) = w2 := ⟨_, rfl⟩
      rw [hw2] at D2 G2 B2 ⊢
      obtain ⟨A2, hA2, hs2⟩ := slice_lo (some ⟨b, s, none⟩) gk c' k kg i1
      have HA2 := Lib.hid hA2
      have HN := Lib.hid hN
      have HD2 := Lib.hid D2
      have HG2 := Lib.hid G2
      have HB2 := Lib.hid B2
      obtain ⟨c20, c21, -, -, -⟩ := D2.cs
      have hNr : N ≤ rate := by omega
      have S2 : Hid (∀ W : World, W.heap[b]? = some (.cells cs T' (0, 0)) → Src W h A2 (r.drop k)) := fun W hWb => by
        by_cases hkg : k < gk
        · exact .inr ⟨b, s + k, cs, T', HA2.out b s rfl hkg, hWb, hbh, fun i x hx => by
            rw [List.getElem?_drop] at hx
            have := HC.out _ _ hx
            rw [← Nat.add_assoc] at this
            exact this⟩
        · exact .inl (List.drop_eq_nil_of_le (by have := I.out.hm; omega))
      clear hw2 D2 G2 B2 hA2 hN e0 e1 f0 c0 c1 D1 G1 HB
      by_cases hfull : N = rate
      · have u1 : ((N : Int) == (rate : Int)) = true := by simp; omega
        have P2 : Hid (∀ q, Calls Try.prog 31 #[.pointer (some ⟨h, 0, none⟩)] (w2.drewN q) fun e w' => e = .returned (.tuple #[]) ∧ DG w' h T (kf (a'.take n' ++ xorL ((a'.drop n').take k) (r.take k) ++ a'.drop (n' + k))) 0 rate ds out 0 tl ∧ w2.grownBy w' (some h)) := fun q =>
          (permute_any (HD2.out.keep (w' := w2.drewN q) rfl)).mono fun e w' hh => ⟨hh.1, hh.2.1, ⟨hh.2.2.os, hh.2.2.tape, hh.2.2.output, hh.2.2.size, hh.2.2.block⟩⟩
        go_wp2_with (simp only [hs2])
        go_quiet (fail)
        go_wp2_with ((go_at_call 31; refine (P2.out _).mono ?_; rintro e w3 ⟨rfl, D3, G3⟩; replace D3 := Lib.hid D3; replace G3 := Lib.hid G3))
        go_roundg (gk - k)
        case measure => omega
        case rel =>
          refine ⟨r.drop k, A2, _, _, _, 0, rfl, rfl, D3.out, by omega, by rw [List.length_drop, ← I.out.hm], by omega, by omega, S2.out _ ?_, ?_, grown_trans HG2.out G3.out⟩
          · exact (G3.out.block b (Src.lt (h := 0) (o := 0) (p := []) HB2.out) (fun e => hbh (by injection e))).trans HB2.out
          · rw [← round_full a' n' k rate r (by rw [← I.out.hm]; omega) k0 (by have := HN.out; omega) (by rw [I.out.dg.len]; omega)]
            exact I.out.fin
      · have u1 : ((N : Int) == (rate : Int)) = false := by simp; omega
        go_wp2_with (simp only [hs2])
        go_quiet (fail)
        go_wp2_with fail
        go_roundg (gk - k)
        case measure => omega
        case rel =>
          refine ⟨r.drop k, A2, _, _, _, N, rfl, rfl, HD2.out.keep rfl, by omega, by rw [List.length_drop, ← I.out.hm], by omega, by omega, S2.out _ HB2.out, ?_, ⟨HG2.out.os, HG2.out.tape, HG2.out.output, HG2.out.size, HG2.out.block⟩⟩
          have := HN.out
          rw [← this, ← round_less a' n' k rate r (by rw [← I.out.hm]; omega) (by omega) (by rw [I.out.dg.len]; omega)]
          exact I.out.fin

end Go.Proofs.Ytemojkjcnkbpoaa

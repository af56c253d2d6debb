/-
  SHA-3: padAndPermute: the sponge is turned round. No condition but a place below the rate.
-/
import Derived.Test.YtemojkjcnkbpoaaShaV
import Derived.Test.YtemojkjcnkbpoaaShaS
import Derived.Test.YtemojkjcnkbpoaaBits8
namespace Go.Proofs.Ytemojkjcnkbpoaa
open Go.RowKit
open Spo
set_option linter.unusedVariables false

/-- the state with the last bits behind what it has drunk -/
def padA (a : List UInt8) (n rate : Nat) (x : UInt8) : List UInt8 := (a.set n (a.getD n 0 ^^^ x)).set (rate - 1) ((a.set n (a.getD n 0 ^^^ x)).getD (rate - 1) 0 ^^^ 128)

theorem xor8 (x y : UInt8) : bits .xor .u8 (y.toNat : Int) (x.toNat : Int) = ((y ^^^ x).toNat : Int) := by
  rw [bits_xor_u8_nat _ _ y.toNat_lt x.toNat_lt, UInt8.toNat_xor]

set_option maxRecDepth 100000 in
set_option maxHeartbeats 2000000 in
theorem pad_any {w : World} {h : Nat} {T : TypeId} {a : List UInt8} {n rate out : Nat} {tl : List Value} (x : UInt8) (d : DG w h T a n rate x.toNat out 0 tl) (hn : n < rate) (hr : rate ≤ 200) :
    Calls Try.prog 30 #[.pointer (some ⟨h, 0, none⟩)] w fun e w' => e = .returned (.tuple #[]) ∧ DG w' h T (kf (padA a n rate x)) 0 rate x.toNat out 1 tl ∧ w.grownBy w' (some h) := by
  have hl := d.len
  obtain ⟨c0, c1, c2, c3, c4⟩ := d.cs
  obtain ⟨y, hy⟩ : ∃ y, a[n]? = some y := ⟨_, List.getElem?_eq_getElem (by omega)⟩
  have hyd : a.getD n 0 = y := by rw [List.getD_eq_getElem?_getD, hy]; rfl
  have cn := d.byte hy
  unfold bv at cn
  have fn := d.fz n
  have o1 := xor8 x y
  have t1 : (0 : Int) ≤ (n : Int) := by omega
  have t2 : (n : Int) < 200 := by omega
  have t3 : n < 200 := by omega
  have HD := Lib.hid d
  have HY := Lib.hid hyd
  clear hy hyd d c1 c3 c4
  go_enter Try.func30, Try.ntmps30
  go_wp2_with fail
  go_region
  go_wp2_with fail
  obtain ⟨W, hW⟩ : ∃ W, (w.setCell ⟨h, n, none⟩ (.int .u8 ((y.toNat ^^^ x.toNat : Nat) : Int))).drew = W := ⟨_, rfl⟩
  have D1 : DG W h T (a.set n (y ^^^ x)) n rate x.toNat out 0 tl := by
    subst hW
    exact (HD.out.setA n t3 (y ^^^ x) _ (by rw [UInt8.toNat_xor])).keep rfl
  have G1 : w.grownBy W (some h) := by
    subst hW
    have g := grown_setCell w h n (.int .u8 ((y.toNat ^^^ x.toNat : Nat) : Int))
    exact ⟨g.os, g.tape, g.output, g.size, g.block⟩
  rw [hW]
  obtain ⟨a1, ha1⟩ : ∃ a1, a.set n (y ^^^ x) = a1 := ⟨_, rfl⟩
  rw [ha1] at D1
  have hl1 := D1.len
  obtain ⟨z, hz⟩ : ∃ z, a1[rate - 1]? = some z := ⟨_, List.getElem?_eq_getElem (by omega)⟩
  have hzd : a1.getD (rate - 1) 0 = z := by rw [List.getD_eq_getElem?_getD, hz]; rfl
  have cz := D1.byte hz
  unfold bv at cz
  have fz := D1.fz (rate - 1)
  obtain ⟨-, r1, -, -, -⟩ := D1.cs
  have z1 := z.toNat_lt
  have u0 : (rate : Int) - 1 = ((rate - 1 : Nat) : Int) := by omega
  have u1 : (0 : Int) ≤ ((rate - 1 : Nat) : Int) := by omega
  have u2 : ((rate - 1 : Nat) : Int) < 200 := by omega
  have u3 : rate - 1 < 200 := by omega
  have HD1 := Lib.hid D1
  have HG1 := Lib.hid G1
  have HA1 := Lib.hid ha1
  have HZ := Lib.hid hzd
  clear D1 G1 ha1 hz hzd hW c0 c2 cn fn o1 t1 t2
  obtain ⟨q, hq⟩ : ∃ q, q = rate - 1 := ⟨_, rfl⟩
  rw [← hq] at cz fz u0 u1 u2 u3 HZ
  have HQ := Lib.hid hq
  clear hq
  go_region
  have D2 : DG ((W.setCell ⟨h, q, none⟩ (.int .u8 (bits .xor .u8 (z.toNat : Int) 128))).drew) h T (padA a n rate x) n rate x.toNat out 0 tl := by
    have e : padA a n rate x = a1.set q (z ^^^ 128) := by unfold padA; rw [HY.out, HA1.out, ← HQ.out, HZ.out]
    rw [e]
    exact (HD1.out.setA q u3 (z ^^^ 128) _ (xor8 128 z)).keep rfl
  have G2 : w.grownBy ((W.setCell ⟨h, q, none⟩ (.int .u8 (bits .xor .u8 (z.toNat : Int) 128))).drew) (some h) := by
    have g := grown_trans HG1.out (grown_setCell W h q (.int .u8 (bits .xor .u8 (z.toNat : Int) 128)))
    exact ⟨g.os, g.tape, g.output, g.size, g.block⟩
  have HP := Lib.hid (permute_any D2)
  have HG2 := Lib.hid G2
  clear D2 G2 cz fz u0 u1 u2 r1
  go_wp2_with fail
  refine HP.out.mono ?_
  rintro e w3 ⟨rfl, D3, G3⟩
  obtain ⟨-, -, -, -, c4⟩ := D3.cs
  have f4 := D3.fz 204
  have HD3 := Lib.hid D3
  have HG3 := Lib.hid G3
  clear D3 G3 HP
  go_wp2_with fail
  go_end0
  exact ⟨rfl, HD3.out.setSt 1 1 rfl, grown_trans (grown_trans HG2.out HG3.out) (grown_setCell w3 h 204 _)⟩

end Go.Proofs.Ytemojkjcnkbpoaa

/-
  SHA-3: Write through its wrappers. No condition but where the bytes lie.
-/
import Derived.Test.YtemojkjcnkbpoaaGreatShaW
namespace Go.Proofs.YtemojkjcnkbpoaaGreat
open Go.RowKit
open Spo
set_option linter.unusedVariables false

set_option maxHeartbeats 1000000 in
theorem write_any {w : World} {h : Nat} {T : TypeId} {a : List UInt8} {n rate ds out : Nat} {tl : List Value} (d : DG w h T a n rate ds out 0 tl) (A : Option Addr) (m c : Nat) (p : List UInt8) (hm : m = p.length) (hs : Src w h A p) (hmc : m ≤ c) (hc : c ≤ 9223372036854775807) (hn : n < rate) (hr : rate ≤ 200) :
    Calls Tryz.prog 74 #[.pointer (some ⟨h, 0, none⟩), .slice A m c] w fun e w' => e = .returned (.tuple #[.int .i64 (m : Int), .nilIface]) ∧ DG w' h T (absorb kf rate (a, n) p).1 (absorb kf rate (a, n) p).2 rate ds out 0 tl ∧ w.grownBy w' (some h) := by
  have X := Lib.hid (writeGeneric_any d A m c p hm hs hmc hc hn hr)
  clear d hm hs
  go_enter Tryz.func74, Tryz.ntmps74
  go_wp2_with ((go_at_call 78; refine X.out.mono ?_; rintro e w1 ⟨rfl, D1, G1⟩; replace D1 := Lib.hid D1; replace G1 := Lib.hid G1))
  go_ret2
  exact ⟨rfl, D1.out, G1.out⟩

set_option maxHeartbeats 1000000 in
theorem digestWrite_any {w : World} {h : Nat} {T : TypeId} {a : List UInt8} {n rate ds out : Nat} {tl : List Value} (d : DG w h T a n rate ds out 0 tl) (A : Option Addr) (m c : Nat) (p : List UInt8) (hm : m = p.length) (hs : Src w h A p) (hmc : m ≤ c) (hc : c ≤ 9223372036854775807) (hn : n < rate) (hr : rate ≤ 200) :
    Calls Tryz.prog 68 #[.pointer (some ⟨h, 0, none⟩), .slice A m c] w fun e w' => e = .returned (.tuple #[.int .i64 (m : Int), .nilIface]) ∧ DG w' h T (absorb kf rate (a, n) p).1 (absorb kf rate (a, n) p).2 rate ds out 0 tl ∧ w.grownBy w' (some h) := by
  have X := Lib.hid (write_any d A m c p hm hs hmc hc hn hr)
  clear d hm hs
  go_enter Tryz.func68, Tryz.ntmps68
  go_wp2_with ((go_at_call 74; refine X.out.mono ?_; rintro e w1 ⟨rfl, D1, G1⟩; replace D1 := Lib.hid D1; replace G1 := Lib.hid G1))
  go_ret2
  exact ⟨rfl, D1.out, G1.out⟩

set_option maxHeartbeats 1000000 in
theorem digestSize_any {w : World} {h : Nat} {T : TypeId} {a : List UInt8} {n rate ds out st : Nat} {tl : List Value} (d : DG w h T a n rate ds out st tl) :
    Calls Tryz.prog 69 #[.pointer (some ⟨h, 0, none⟩)] w fun e w' => e = .returned (.int .i64 (out : Int)) ∧ w' = w := by
  obtain ⟨c0, c1, c2, c3, c4⟩ := d.cs
  clear d c0 c1 c2 c4
  go_enter Tryz.func69, Tryz.ntmps69
  go_wp2
  go_ret
  exact ⟨rfl, rfl⟩

set_option maxHeartbeats 1000000 in
theorem init_any {w : World} {h : Nat} {T : TypeId} {a : List UInt8} {n rate ds out st : Nat} {tl : List Value} (d : DG w h T a n rate ds out st tl) (ho : 0 < out) :
    Calls Tryz.prog 64 #[.pointer (some ⟨h, 0, none⟩)] w fun e w' => e = .returned (.tuple #[]) ∧ w' = w := by
  have X := Lib.hid (digestSize_any d)
  have t1 : ((out : Int) == 0) = false := by simp; omega
  clear d
  go_enter Tryz.func64, Tryz.ntmps64
  go_wp2_with ((go_at_call 69; refine X.out.mono ?_; rintro e w1 ⟨rfl, rfl⟩))
  go_end0
  exact ⟨rfl, rfl⟩

set_option maxHeartbeats 1000000 in
theorem sha3Write_any {w : World} {h : Nat} {T : TypeId} {a : List UInt8} {n rate ds out : Nat} {tl : List Value} (d : DG w h T a n rate ds out 0 tl) (ho : 0 < out) (A : Option Addr) (m c : Nat) (p : List UInt8) (hm : m = p.length) (hs : Src w h A p) (hmc : m ≤ c) (hc : c ≤ 9223372036854775807) (hn : n < rate) (hr : rate ≤ 200) :
    Calls Tryz.prog 63 #[.pointer (some ⟨h, 0, none⟩), .slice A m c] w fun e w' => e = .returned (.tuple #[.int .i64 (m : Int), .nilIface]) ∧ DG w' h T (absorb kf rate (a, n) p).1 (absorb kf rate (a, n) p).2 rate ds out 0 tl ∧ w.grownBy w' (some h) := by
  have X := Lib.hid (digestWrite_any d A m c p hm hs hmc hc hn hr)
  have Y := Lib.hid (init_any d ho)
  clear d hm hs
  go_enter Tryz.func63, Tryz.ntmps63
  go_wp2_with (first | (go_at_call 64; refine Y.out.mono ?_; rintro e w0 ⟨rfl, rfl⟩) | (go_at_call 68; refine X.out.mono ?_; rintro e w1 ⟨rfl, D1, G1⟩; replace D1 := Lib.hid D1; replace G1 := Lib.hid G1))
  go_ret2
  exact ⟨rfl, D1.out, G1.out⟩

end Go.Proofs.YtemojkjcnkbpoaaGreat

/-
  SHA-3: Write through its wrappers. No condition but where the bytes lie.
-/
import Derived.Test.YtemojkjcnkbpoaaShaW
namespace Go.Proofs.Ytemojkjcnkbpoaa
open Go.RowKit
open Spo
set_option linter.unusedVariables false

set_option maxHeartbeats 1000000 in
theorem write_any {w : World} {h : Nat} {T : TypeId} {a : List UInt8} {n rate ds out : Nat} {tl : List Value} (d : DG w h T a n rate ds out 0 tl) (A : Option Addr) (m c : Nat) (p : List UInt8) (hm : m = p.length) (hs : Src w h A p) (hmc : m ≤ c) (hc : c ≤ 9223372036854775807) (hn : n < rate) (hr : rate ≤ 200) :
    Calls Try.prog 25 #[.pointer (some ⟨h, 0, none⟩), .slice A m c] w fun e w' => e = .returned (.tuple #[.int .i64 (m : Int), .nilIface]) ∧ DG w' h T (absorb kf rate (a, n) p).1 (absorb kf rate (a, n) p).2 rate ds out 0 tl ∧ w.grownBy w' (some h) := by
  have X := Lib.hid (writeGeneric_any d A m c p hm hs hmc hc hn hr)
  clear d hm hs
  go_enter Try.func25, Try.ntmps25
  go_wp2_with ((go_at_call 29; refine X.out.mono ?_; rintro e w1 ⟨rfl, D1, G1⟩; replace D1 := Lib.hid D1; replace G1 := Lib.hid G1))
  go_ret2
  exact ⟨rfl, D1.out, G1.out⟩

set_option maxHeartbeats 1000000 in
theorem digestWrite_any {w : World} {h : Nat} {T : TypeId} {a : List UInt8} {n rate ds out : Nat} {tl : List Value} (d : DG w h T a n rate ds out 0 tl) (A : Option Addr) (m c : Nat) (p : List UInt8) (hm : m = p.length) (hs : Src w h A p) (hmc : m ≤ c) (hc : c ≤ 9223372036854775807) (hn : n < rate) (hr : rate ≤ 200) :
    Calls Try.prog 21 #[.pointer (some ⟨h, 0, none⟩), .slice A m c] w fun e w' => e = .returned (.tuple #[.int .i64 (m : Int), .nilIface]) ∧ DG w' h T (absorb kf rate (a, n) p).1 (absorb kf rate (a, n) p).2 rate ds out 0 tl ∧ w.grownBy w' (some h) := by
  have X := Lib.hid (write_any d A m c p hm hs hmc hc hn hr)
  clear d hm hs
  go_enter Try.func21, Try.ntmps21
  go_wp2_with ((go_at_call 25; refine X.out.mono ?_; rintro e w1 ⟨rfl, D1, G1⟩; replace D1 := Lib.hid D1; replace G1 := Lib.hid G1))
  go_ret2
  exact ⟨rfl, D1.out, G1.out⟩

set_option maxHeartbeats 1000000 in
theorem digestSize_any {w : World} {h : Nat} {T : TypeId} {a : List UInt8} {n rate ds out st : Nat} {tl : List Value} (d : DG w h T a n rate ds out st tl) :
    Calls Try.prog 24 #[.pointer (some ⟨h, 0, none⟩)] w fun e w' => e = .returned (.int .i64 (out : Int)) ∧ w' = w := by
  obtain ⟨c0, c1, c2, c3, c4⟩ := d.cs
  clear d c0 c1 c2 c4
  go_enter Try.func24, Try.ntmps24
  go_wp2
  go_ret
  exact ⟨rfl, rfl⟩

end Go.Proofs.Ytemojkjcnkbpoaa

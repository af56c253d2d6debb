/-
  Plain: the operations on bits of bytes, as numbers. No condition.
-/
import Derived.Test.YtemojkjcnkbpoaaGreatDoorBase
import Derived.Laws.Bits64b
namespace Go.Proofs.YtemojkjcnkbpoaaGreatDoor

theorem bv8 (a : Nat) (h : a < 256) : (BitVec.ofInt 8 (a : Int)).toNat = a := by
  rw [BitVec.ofInt_natCast, BitVec.toNat_ofNat]; exact Nat.mod_eq_of_lt (by omega)
theorem wrap8 (a : Nat) (h : a < 256) : IntKind.u8.wrap (a : Int) = (a : Int) := by rw [IntKind.wrap_u8]; omega

theorem bits_and_u8_nat (a b : Nat) (ha : a < 256) (hb : b < 256) : bits .and .u8 (a : Int) (b : Int) = ((a &&& b : Nat) : Int) := by
  have hx : a &&& b < 2 ^ 8 := Nat.and_lt_two_pow _ (by omega)
  show IntKind.u8.wrap ((BitVec.ofInt 8 (a : Int) &&& BitVec.ofInt 8 (b : Int)).toNat : Int) = _
  rw [BitVec.toNat_and, bv8 a ha, bv8 b hb, wrap8 _ hx]
theorem bits_or_u8_nat (a b : Nat) (ha : a < 256) (hb : b < 256) : bits .or .u8 (a : Int) (b : Int) = ((a ||| b : Nat) : Int) := by
  have hx : a ||| b < 2 ^ 8 := Nat.or_lt_two_pow (by omega) (by omega)
  show IntKind.u8.wrap ((BitVec.ofInt 8 (a : Int) ||| BitVec.ofInt 8 (b : Int)).toNat : Int) = _
  rw [BitVec.toNat_or, bv8 a ha, bv8 b hb, wrap8 _ hx]
theorem bits_xor_u8_nat (a b : Nat) (ha : a < 256) (hb : b < 256) : bits .xor .u8 (a : Int) (b : Int) = ((a ^^^ b : Nat) : Int) := by
  have hx : a ^^^ b < 2 ^ 8 := Nat.xor_lt_two_pow (by omega) (by omega)
  show IntKind.u8.wrap ((BitVec.ofInt 8 (a : Int) ^^^ BitVec.ofInt 8 (b : Int)).toNat : Int) = _
  rw [BitVec.toNat_xor, bv8 a ha, bv8 b hb, wrap8 _ hx]
theorem bits_andNot_u8_nat (a b : Nat) (ha : a < 256) (hb : b < 256) : bits .andNot .u8 (a : Int) (b : Int) = ((a &&& (255 - b) : Nat) : Int) := by
  have hx : a &&& (255 - b) < 2 ^ 8 := Nat.and_lt_two_pow _ (by omega)
  show IntKind.u8.wrap ((BitVec.ofInt 8 (a : Int) &&& ~~~ BitVec.ofInt 8 (b : Int)).toNat : Int) = _
  rw [BitVec.toNat_and, BitVec.toNat_not, bv8 a ha, bv8 b hb]
  exact wrap8 _ hx

end Go.Proofs.YtemojkjcnkbpoaaGreatDoor

/-
  Plain: the sums of Adler-32 of data that are added place by place. No program here. No condition.
-/
import Derived.Test.YtciadiaodceijaaAdl
namespace Go.Proofs.Ytciadiaodceijaa

/-- what is added to a byte a: less than what is left up to 256 -/
def addOwn (a b : UInt8) : UInt8 := UInt8.ofNat (b.toNat % (256 - a.toNat))
def addBoth (a b : UInt8) : UInt8 := UInt8.ofNat (a.toNat + b.toNat % (256 - a.toNat))
def addQ (z : UInt8 × UInt8) : UInt8 := addOwn z.1 z.2
def addB (z : UInt8 × UInt8) : UInt8 := addBoth z.1 z.2

theorem addOwn_nat (a b : UInt8) : (addOwn a b).toNat = b.toNat % (256 - a.toNat) ∧ a.toNat + b.toNat % (256 - a.toNat) < 256 := by
  have ha := a.toNat_lt
  have := Nat.mod_lt b.toNat (show 0 < 256 - a.toNat by omega)
  refine ⟨?_, by omega⟩
  rw [addOwn, UInt8.toNat_ofNat']
  omega
theorem addBoth_nat (a b : UInt8) : (addBoth a b).toNat = a.toNat + b.toNat % (256 - a.toNat) := by
  have h := (addOwn_nat a b).2
  rw [addBoth, UInt8.toNat_ofNat']
  omega

theorem Adl.sm_added (zs : List (UInt8 × UInt8)) : Adl.sm (zs.map addB) = Adl.sm (zs.map (·.1)) + Adl.sm (zs.map addQ) := by
  induction zs with
  | nil => rfl
  | cons z r ih =>
    simp only [List.map_cons, Adl.sm, ih]
    have h1 := (addOwn_nat z.1 z.2).1
    have h2 := addBoth_nat z.1 z.2
    simp only [addB, addQ]
    omega
theorem Adl.ws_added (zs : List (UInt8 × UInt8)) : Adl.ws (zs.map addB) = Adl.ws (zs.map (·.1)) + Adl.ws (zs.map addQ) := by
  induction zs with
  | nil => rfl
  | cons z r ih =>
    simp only [List.map_cons, Adl.ws, ih, List.length_map]
    have h1 := (addOwn_nat z.1 z.2).1
    have h2 := addBoth_nat z.1 z.2
    simp only [addB, addQ]
    rw [h2, h1, Nat.mul_add]
    omega
theorem Adl.a_added (zs : List (UInt8 × UInt8)) : (Adl.a (zs.map addB) : Int) = ((Adl.a (zs.map (·.1)) : Int) + Adl.a (zs.map addQ) - 1) % 65521 := by
  have h := Adl.sm_added zs
  simp only [Adl.a]
  omega
theorem Adl.b_added (zs : List (UInt8 × UInt8)) (n : Nat) (hn : zs.length = n) : (Adl.b (zs.map addB) : Int) = ((Adl.b (zs.map (·.1)) : Int) + Adl.b (zs.map addQ) - n) % 65521 := by
  have h := Adl.ws_added zs
  simp only [Adl.b, List.length_map, hn]
  omega

end Go.Proofs.Ytciadiaodceijaa

/-
  Plain: the ascii85 text of a list of bytes, group by group, and its first laws. No program here. No condition.
-/
import Derived.Test.YtemojkjcnkbpoaaGreatDoorBase
namespace Go.Proofs.YtemojkjcnkbpoaaGreatDoor.Asc

def be4 (a b c d : UInt8) : Nat := ((a.toNat * 256 + b.toNat) * 256 + c.toNat) * 256 + d.toNat
def dig (v k : Nat) : UInt8 := UInt8.ofNat (33 + v / 85 ^ k % 85)
def dig5 (v : Nat) : List UInt8 := [dig v 4, dig v 3, dig v 2, dig v 1, dig v 0]
def grp (v : Nat) : List UInt8 := if v = 0 then [122] else dig5 v
def enc : List UInt8 → List UInt8
  | a :: b :: c :: d :: r => grp (be4 a b c d) ++ enc r
  | [a, b, c] => (dig5 (be4 a b c 0)).take 4
  | [a, b] => (dig5 (be4 a b 0 0)).take 3
  | [a] => (dig5 (be4 a 0 0 0)).take 2
  | [] => []

theorem be4_lt (a b c d : UInt8) : be4 a b c d < 4294967296 := by
  have := a.toNat_lt; have := b.toNat_lt; have := c.toNat_lt; have := d.toNat_lt
  unfold be4; omega

theorem dig_toNat (v k : Nat) : (dig v k).toNat = 33 + v / 85 ^ k % 85 := by
  unfold dig
  have : v / 85 ^ k % 85 < 85 := Nat.mod_lt _ (by omega)
  rw [UInt8.toNat_ofNat']
  omega

theorem enc_nil : enc [] = [] := by rw [enc]
theorem enc_cons4 (a b c d : UInt8) (r : List UInt8) : enc (a :: b :: c :: d :: r) = grp (be4 a b c d) ++ enc r := by rw [enc]

theorem grp_len (v : Nat) : (grp v).length = 1 ∨ (grp v).length = 5 := by
  unfold grp; split <;> simp [dig5]

theorem enc_append : ∀ (n : Nat) (x y : List UInt8), x.length = 4 * n → enc (x ++ y) = enc x ++ enc y
  | 0, x, y, h => by
    have : x = [] := List.eq_nil_of_length_eq_zero (by omega)
    subst this; simp [enc]
  | n + 1, x, y, h => by
    match x, h with
    | a :: b :: c :: d :: r, h =>
      have hr : r.length = 4 * n := by simp at h; omega
      simp only [List.cons_append, enc_cons4, enc_append n r y hr, List.append_assoc]

theorem enc_len : ∀ (x : List UInt8), (enc x).length ≤ (x.length + 3) / 4 * 5
  | a :: b :: c :: d :: r => by
    have ih := enc_len r
    rw [enc_cons4, List.length_append]
    have := grp_len (be4 a b c d)
    simp only [List.length_cons]
    omega
  | [a, b, c] => by simp [enc, dig5]
  | [a, b] => by simp [enc, dig5]
  | [a] => by simp [enc, dig5]
  | [] => by simp [enc]

theorem enc_pos {x : List UInt8} (h : 0 < x.length) : 0 < (enc x).length := by
  match x, h with
  | a :: b :: c :: d :: r, _ => rw [enc_cons4, List.length_append]; have := grp_len (be4 a b c d); omega
  | [a, b, c], _ => simp [enc, dig5]
  | [a, b], _ => simp [enc, dig5]
  | [a], _ => simp [enc, dig5]

end Go.Proofs.YtemojkjcnkbpoaaGreatDoor.Asc

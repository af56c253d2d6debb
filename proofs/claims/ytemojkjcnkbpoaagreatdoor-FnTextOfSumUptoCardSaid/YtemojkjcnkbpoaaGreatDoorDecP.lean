/-
  Plain: what ascii85.Decode computes, and that it undoes the encoding, whole, cut, into a small room. No program here. No condition.
-/
import Derived.Test.YtemojkjcnkbpoaaGreatDoorAsc
namespace Go.Proofs.YtemojkjcnkbpoaaGreatDoor.Asc

/-- the four bytes of a number of 32 bits, the most significant one first -/
def b4 (v : Nat) : List UInt8 := [UInt8.ofNat (v / 16777216), UInt8.ofNat (v / 65536), UInt8.ofNat (v / 256), UInt8.ofNat v]
/-- what a decoding returns: the bytes, how much of the text was used, the place of a fault -/
abbrev DRes : Type := List UInt8 × Nat × Option Nat
/-- a fragment's number, its missing digits taken as 84 -/
def pad (v : Nat) : Nat → Nat
  | 0 => v
  | k + 1 => pad ((v * 85 + 84) % 4294967296) k
def fin (flush : Bool) (len used v nb : Nat) (out : List UInt8) : DRes :=
  if flush = true then
    (if nb = 0 then (out, len, none) else if nb = 1 then ([], 0, some len) else (out ++ (b4 (pad v (5 - nb))).take (nb - 1), len, none))
  else (out, used, none)
def dec (room : Nat) (flush : Bool) (len : Nat) : List UInt8 → Nat → Nat → Nat → Nat → List UInt8 → DRes
  | [], _, used, v, nb, out => fin flush len used v nb out
  | b :: r, i, used, v, nb, out =>
    if room < out.length + 4 then (out, used, none)
    else if b.toNat ≤ 32 then dec room flush len r (i + 1) used v nb out
    else if b.toNat = 122 ∧ nb = 0 then dec room flush len r (i + 1) (i + 1) 0 0 (out ++ [0, 0, 0, 0])
    else if b.toNat ≤ 117 then
      (if nb = 4 then dec room flush len r (i + 1) (i + 1) 0 0 (out ++ b4 ((v * 85 + (b.toNat - 33)) % 4294967296))
       else dec room flush len r (i + 1) used ((v * 85 + (b.toNat - 33)) % 4294967296) (nb + 1) out)
    else ([], 0, some i)

section
variable {room : Nat} {flush : Bool} {len : Nat}

theorem dec_digit {b : UInt8} {r : List UInt8} {i used v nb : Nat} {out : List UInt8} (hr : out.length + 4 ≤ room) (h0 : 33 ≤ b.toNat) (h1 : b.toNat ≤ 117) (hn : nb < 4) (v' : Nat) (hv : (v * 85 + (b.toNat - 33)) % 4294967296 = v') :
    dec room flush len (b :: r) i used v nb out = dec room flush len r (i + 1) used v' (nb + 1) out := by
  rw [dec, if_neg (by omega), if_neg (by omega), if_neg (by omega), if_pos h1, if_neg (by omega), hv]
theorem dec_last {b : UInt8} {r : List UInt8} {i used v : Nat} {out : List UInt8} (hr : out.length + 4 ≤ room) (h0 : 33 ≤ b.toNat) (h1 : b.toNat ≤ 117) (v' : Nat) (hv : (v * 85 + (b.toNat - 33)) % 4294967296 = v') :
    dec room flush len (b :: r) i used v 4 out = dec room flush len r (i + 1) (i + 1) 0 0 (out ++ b4 v') := by
  rw [dec, if_neg (by omega), if_neg (by omega), if_neg (by omega), if_pos h1, if_pos rfl, hv]
theorem dec_z {r : List UInt8} {i used v : Nat} {out : List UInt8} (hr : out.length + 4 ≤ room) :
    dec room flush len (122 :: r) i used v 0 out = dec room flush len r (i + 1) (i + 1) 0 0 (out ++ [0, 0, 0, 0]) := by
  rw [dec, if_neg (by omega), if_neg (by decide), if_pos ⟨by decide, rfl⟩]
theorem dec_full {b : UInt8} {r : List UInt8} {i used v nb : Nat} {out : List UInt8} (hr : room < out.length + 4) : dec room flush len (b :: r) i used v nb out = (out, used, none) := by
  rw [dec, if_pos hr]

theorem dig_lo (v k : Nat) : 33 ≤ (dig v k).toNat := by rw [dig_toNat]; omega
theorem dig_hi (v k : Nat) : (dig v k).toNat ≤ 117 := by rw [dig_toNat]; have : v / 85 ^ k % 85 < 85 := Nat.mod_lt _ (by omega); omega
theorem dig_val (v k : Nat) : (dig v k).toNat - 33 = v / 85 ^ k % 85 := by rw [dig_toNat]; omega

/-- the number behind the first digits -/
theorem dec_dig {r : List UInt8} {i used V k nb : Nat} {out : List UInt8} (hV : V < 4294967296) (hr : out.length + 4 ≤ room) (hn : nb < 4) (v : Nat) (hv : v = V / 85 ^ (k + 1)) :
    dec room flush len (dig V k :: r) i used v nb out = dec room flush len r (i + 1) used (V / 85 ^ k) (nb + 1) out := by
  refine dec_digit hr (dig_lo V k) (dig_hi V k) hn _ ?_
  rw [dig_val, hv, Nat.pow_succ, ← Nat.div_div_eq_div_mul]
  have : V / 85 ^ k ≤ V := Nat.div_le_self _ _
  omega
theorem dec_dig0 {r : List UInt8} {i used V : Nat} {out : List UInt8} (hV : V < 4294967296) (hr : out.length + 4 ≤ room) (v : Nat) (hv : v = V / 85) :
    dec room flush len (dig V 0 :: r) i used v 4 out = dec room flush len r (i + 1) (i + 1) 0 0 (out ++ b4 V) := by
  refine dec_last hr (dig_lo V 0) (dig_hi V 0) _ ?_
  rw [dig_val, hv, Nat.pow_zero, Nat.div_one]
  omega

theorem b4_zero : b4 0 = [0, 0, 0, 0] := by decide

/-- five digits are four bytes -/
theorem dec_five {r : List UInt8} {i used V : Nat} {out : List UInt8} (hV : V < 4294967296) (hr : out.length + 4 ≤ room) :
    dec room flush len (dig5 V ++ r) i used 0 0 out = dec room flush len r (i + 5) (i + 5) 0 0 (out ++ b4 V) := by
  have h5 : V / 85 ^ (4 + 1) = 0 := Nat.div_eq_of_lt (by simp; omega)
  show dec room flush len (dig V 4 :: dig V 3 :: dig V 2 :: dig V 1 :: dig V 0 :: r) i used 0 0 out = _
  rw [dec_dig hV hr (by omega) 0 h5.symm, dec_dig hV hr (by omega) _ rfl, dec_dig hV hr (by omega) _ rfl, dec_dig hV hr (by omega) _ rfl, dec_dig0 hV hr _ (by simp)]

/-- a group's text is its four bytes -/
theorem dec_grp {r : List UInt8} {i used V : Nat} {out : List UInt8} (hV : V < 4294967296) (hr : out.length + 4 ≤ room) :
    dec room flush len (grp V ++ r) i used 0 0 out = dec room flush len r (i + (grp V).length) (i + (grp V).length) 0 0 (out ++ b4 V) := by
  unfold grp
  split
  · rename_i h
    subst h
    rw [b4_zero]
    exact dec_z hr
  · exact dec_five hV hr

theorem ofNat_toNat' (x : UInt8) (n : Nat) (h : n % 256 = x.toNat) : UInt8.ofNat n = x := by
  apply UInt8.toNat_inj.1
  rw [UInt8.toNat_ofNat']
  exact h
theorem b4_be4 (a b c d : UInt8) : b4 (be4 a b c d) = [a, b, c, d] := by
  have := a.toNat_lt; have := b.toNat_lt; have := c.toNat_lt; have := d.toNat_lt
  unfold b4 be4
  rw [ofNat_toNat' a _ (by omega), ofNat_toNat' b _ (by omega), ofNat_toNat' c _ (by omega), ofNat_toNat' d _ (by omega)]

theorem dec_cons4 {a b c d : UInt8} {r : List UInt8} {i used : Nat} {out : List UInt8} (hr : out.length + 4 ≤ room) :
    dec room flush len (grp (be4 a b c d) ++ r) i used 0 0 out = dec room flush len r (i + (grp (be4 a b c d)).length) (i + (grp (be4 a b c d)).length) 0 0 (out ++ [a, b, c, d]) := by
  rw [dec_grp (be4_lt a b c d) hr, b4_be4]

/-- the last fragment: one, two, three bytes -/
theorem dec_frag1 {a : UInt8} {i used : Nat} {out : List UInt8} (hr : out.length + 4 ≤ room) : dec room true len (enc [a]) i used 0 0 out = (out ++ [a], len, none) := by
  have ha := a.toNat_lt
  have hV := be4_lt a 0 0 0
  have h5 : be4 a 0 0 0 / 85 ^ (4 + 1) = 0 := Nat.div_eq_of_lt (by simp; omega)
  have he : enc [a] = [dig (be4 a 0 0 0) 4, dig (be4 a 0 0 0) 3] := by simp [enc, dig5]
  rw [he, dec_dig hV hr (by omega) 0 h5.symm, dec_dig hV hr (by omega) _ rfl, dec]
  simp only [fin, pad, if_true]
  have e : (b4 ((((be4 a 0 0 0 / 85 ^ 3 * 85 + 84) % 4294967296 * 85 + 84) % 4294967296 * 85 + 84) % 4294967296)).take 1 = [a] := by
    have hV' : be4 a 0 0 0 = a.toNat * 16777216 := by unfold be4; simp only [UInt8.toNat_zero]; omega
    rw [hV']
    simp only [Nat.reducePow]
    obtain ⟨q, hq⟩ : ∃ q, q = a.toNat * 16777216 / 614125 := ⟨_, rfl⟩
    have h1 : (q * 85 + 84) % 4294967296 = q * 85 + 84 := Nat.mod_eq_of_lt (by omega)
    have h2 : ((q * 85 + 84) * 85 + 84) % 4294967296 = (q * 85 + 84) * 85 + 84 := Nat.mod_eq_of_lt (by omega)
    have h3 : (((q * 85 + 84) * 85 + 84) * 85 + 84) % 4294967296 = ((q * 85 + 84) * 85 + 84) * 85 + 84 := Nat.mod_eq_of_lt (by omega)
    rw [← hq, h1, h2, h3]
    obtain ⟨p, hp⟩ : ∃ p, p = ((q * 85 + 84) * 85 + 84) * 85 + 84 := ⟨_, rfl⟩
    have hb : a.toNat * 16777216 ≤ p ∧ p < a.toNat * 16777216 + 16777216 := by omega
    rw [← hp]
    clear hp h1 h2 h3 hq
    unfold b4
    simp only [List.take_succ_cons, List.take_zero]
    rw [ofNat_toNat' a _ (by omega)]
  simp only [Nat.reduceAdd, Nat.reduceSub, Nat.reduceEqDiff, if_false] at e ⊢
  exact congrArg (fun l => (out ++ l, len, none)) e
theorem dec_frag2 {a b : UInt8} {i used : Nat} {out : List UInt8} (hr : out.length + 4 ≤ room) : dec room true len (enc [a, b]) i used 0 0 out = (out ++ [a, b], len, none) := by
  have ha := a.toNat_lt
  have hb := b.toNat_lt
  have hV := be4_lt a b 0 0
  have h5 : be4 a b 0 0 / 85 ^ (4 + 1) = 0 := Nat.div_eq_of_lt (by simp; omega)
  have he : enc [a, b] = [dig (be4 a b 0 0) 4, dig (be4 a b 0 0) 3, dig (be4 a b 0 0) 2] := by simp [enc, dig5]
  rw [he, dec_dig hV hr (by omega) 0 h5.symm, dec_dig hV hr (by omega) _ rfl, dec_dig hV hr (by omega) _ rfl, dec]
  simp only [fin, pad, if_true]
  have e : (b4 (((be4 a b 0 0 / 85 ^ 2 * 85 + 84) % 4294967296 * 85 + 84) % 4294967296)).take 2 = [a, b] := by
    have hV' : be4 a b 0 0 = a.toNat * 16777216 + b.toNat * 65536 := by unfold be4; simp only [UInt8.toNat_zero]; omega
    rw [hV']
    simp only [Nat.reducePow]
    obtain ⟨q, hq⟩ : ∃ q, q = (a.toNat * 16777216 + b.toNat * 65536) / 7225 := ⟨_, rfl⟩
    have h1 : (q * 85 + 84) % 4294967296 = q * 85 + 84 := Nat.mod_eq_of_lt (by omega)
    have h2 : ((q * 85 + 84) * 85 + 84) % 4294967296 = (q * 85 + 84) * 85 + 84 := Nat.mod_eq_of_lt (by omega)
    rw [← hq, h1, h2]
    obtain ⟨p, hp⟩ : ∃ p, p = (q * 85 + 84) * 85 + 84 := ⟨_, rfl⟩
    have hb : a.toNat * 16777216 + b.toNat * 65536 ≤ p ∧ p < a.toNat * 16777216 + b.toNat * 65536 + 65536 := by omega
    rw [← hp]
    clear hp h1 h2 hq
    unfold b4
    simp only [List.take_succ_cons, List.take_zero]
    rw [ofNat_toNat' a _ (by omega), ofNat_toNat' b _ (by omega)]
  simp only [Nat.reduceAdd, Nat.reduceSub, Nat.reduceEqDiff, if_false] at e ⊢
  exact congrArg (fun l => (out ++ l, len, none)) e
theorem dec_frag3 {a b c : UInt8} {i used : Nat} {out : List UInt8} (hr : out.length + 4 ≤ room) : dec room true len (enc [a, b, c]) i used 0 0 out = (out ++ [a, b, c], len, none) := by
  have ha := a.toNat_lt
  have hb := b.toNat_lt
  have hc := c.toNat_lt
  have hV := be4_lt a b c 0
  have h5 : be4 a b c 0 / 85 ^ (4 + 1) = 0 := Nat.div_eq_of_lt (by simp; omega)
  have he : enc [a, b, c] = [dig (be4 a b c 0) 4, dig (be4 a b c 0) 3, dig (be4 a b c 0) 2, dig (be4 a b c 0) 1] := by simp [enc, dig5]
  rw [he, dec_dig hV hr (by omega) 0 h5.symm, dec_dig hV hr (by omega) _ rfl, dec_dig hV hr (by omega) _ rfl, dec_dig hV hr (by omega) _ rfl, dec]
  simp only [fin, pad, if_true]
  have e : (b4 ((be4 a b c 0 / 85 ^ 1 * 85 + 84) % 4294967296)).take 3 = [a, b, c] := by
    have hV' : be4 a b c 0 = a.toNat * 16777216 + b.toNat * 65536 + c.toNat * 256 := by unfold be4; simp only [UInt8.toNat_zero]; omega
    rw [hV']
    simp only [Nat.reducePow]
    obtain ⟨q, hq⟩ : ∃ q, q = (a.toNat * 16777216 + b.toNat * 65536 + c.toNat * 256) / 85 := ⟨_, rfl⟩
    have h1 : (q * 85 + 84) % 4294967296 = q * 85 + 84 := Nat.mod_eq_of_lt (by omega)
    rw [← hq, h1]
    obtain ⟨p, hp⟩ : ∃ p, p = q * 85 + 84 := ⟨_, rfl⟩
    have hb : a.toNat * 16777216 + b.toNat * 65536 + c.toNat * 256 ≤ p ∧ p < a.toNat * 16777216 + b.toNat * 65536 + c.toNat * 256 + 256 := by omega
    rw [← hp]
    clear hp h1 hq
    unfold b4
    simp only [List.take_succ_cons, List.take_zero]
    rw [ofNat_toNat' a _ (by omega), ofNat_toNat' b _ (by omega), ofNat_toNat' c _ (by omega)]
  simp only [Nat.reduceAdd, Nat.reduceSub, Nat.reduceEqDiff, if_false] at e ⊢
  exact congrArg (fun l => (out ++ l, len, none)) e

/-- whole groups, then whatever comes -/
theorem dec_groups : ∀ (q : Nat) (x r : List UInt8) (i used : Nat) (out : List UInt8), x.length = 4 * q → out.length + 4 * q ≤ room → (q = 0 → used = i) →
    dec room flush len (enc x ++ r) i used 0 0 out = dec room flush len r (i + (enc x).length) (i + (enc x).length) 0 0 (out ++ x)
  | 0, x, r, i, used, out, hx, _, hu => by
    have : x = [] := List.eq_nil_of_length_eq_zero (by omega)
    subst this
    simp [enc, hu rfl]
  | q + 1, x, r, i, used, out, hx, hr, _ => by
    match x, hx with
    | a :: b :: c :: d :: y, hx =>
      have hy : y.length = 4 * q := by simp at hx; omega
      rw [enc_cons4, List.append_assoc, dec_cons4 (by omega), dec_groups q y r _ _ _ hy (by simp; omega) (fun _ => rfl)]
      simp [Nat.add_assoc]

/-- the whole text, flushed, into enough room -/
theorem dec_all (x : List UInt8) (i used : Nat) (out : List UInt8) (hr : out.length + (x.length + 3) / 4 * 4 ≤ room) : dec room true len (enc x) i used 0 0 out = (out ++ x, len, none) := by
  match x, hr with
  | [], _ => simp [enc, dec, fin]
  | [a], hr => exact dec_frag1 (by simpa using hr)
  | [a, b], hr => exact dec_frag2 (by simpa using hr)
  | [a, b, c], hr => exact dec_frag3 (by simpa using hr)
  | a :: b :: c :: d :: y, hr =>
    simp only [List.length_cons] at hr
    rw [enc_cons4, dec_cons4 (by omega), dec_all y _ _ _ (by simp; omega)]
    simp
end

end Go.Proofs.YtemojkjcnkbpoaaGreatDoor.Asc

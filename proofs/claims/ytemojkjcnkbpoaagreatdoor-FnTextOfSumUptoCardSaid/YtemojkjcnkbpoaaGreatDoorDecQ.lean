/-
  Plain: decoding into a small room, decoding a cut text, z between groups and inside one, five digits for z. No program here. No condition.
-/
import Derived.Test.YtemojkjcnkbpoaaGreatDoorDecP
namespace Go.Proofs.YtemojkjcnkbpoaaGreatDoor.Asc

theorem groups_le : ∀ x : List UInt8, (x.length + 3) / 4 ≤ (enc x).length
  | a :: b :: c :: d :: r => by
    have ih := groups_le r
    rw [enc_cons4, List.length_append]
    have := grp_len (be4 a b c d)
    simp only [List.length_cons]
    omega
  | [a, b, c] => by simp [enc, dig5]
  | [a, b] => by simp [enc, dig5]
  | [a] => by simp [enc, dig5]
  | [] => by simp [enc]

theorem enc_split (q : Nat) (x : List UInt8) (h : 4 * q ≤ x.length) : enc x = enc (x.take (4 * q)) ++ enc (x.drop (4 * q)) := by
  have e : x = x.take (4 * q) ++ x.drop (4 * q) := (List.take_append_drop _ _).symm
  have := enc_append q (x.take (4 * q)) (x.drop (4 * q)) (by rw [List.length_take]; omega)
  rw [← e] at this
  exact this

section
variable {room : Nat} {flush : Bool} {len : Nat}

/-- into a small room: as many groups as it holds -/
theorem dec_room (q : Nat) (x : List UInt8) (h0 : 4 * q ≤ room) (h1 : room < 4 * q + 4) (hx : 4 * q < x.length) :
    dec room flush len (enc x) 0 0 0 0 [] = (x.take (4 * q), (enc (x.take (4 * q))).length, none) := by
  rw [enc_split q x (by omega), dec_groups q (x.take (4 * q)) _ 0 0 [] (by rw [List.length_take]; omega) (by simpa using h0) (fun _ => rfl)]
  have hp : 0 < (enc (x.drop (4 * q))).length := enc_pos (by rw [List.length_drop]; omega)
  match he : enc (x.drop (4 * q)), hp with
  | b :: r, _ =>
    rw [dec_full (by simp; omega)]
    simp

/-- the first digits of a group, not flushed, are left -/
theorem dec_part {V i used : Nat} {out : List UInt8} (hV : V < 4294967296) (hr : out.length + 4 ≤ room) (k : Nat) (hk : k ≤ 4) : dec room false len ((dig5 V).take k) i used 0 0 out = (out, used, none) := by
  have h5 : V / 85 ^ (4 + 1) = 0 := Nat.div_eq_of_lt (by simp; omega)
  have : k = 0 ∨ k = 1 ∨ k = 2 ∨ k = 3 ∨ k = 4 := by omega
  rcases this with rfl | rfl | rfl | rfl | rfl
  · simp [dig5, dec, fin]
  · show dec room false len [dig V 4] i used 0 0 out = _
    rw [dec_dig hV hr (by omega) 0 h5.symm, dec]; simp [fin]
  · show dec room false len [dig V 4, dig V 3] i used 0 0 out = _
    rw [dec_dig hV hr (by omega) 0 h5.symm, dec_dig hV hr (by omega) _ rfl, dec]; simp [fin]
  · show dec room false len [dig V 4, dig V 3, dig V 2] i used 0 0 out = _
    rw [dec_dig hV hr (by omega) 0 h5.symm, dec_dig hV hr (by omega) _ rfl, dec_dig hV hr (by omega) _ rfl, dec]; simp [fin]
  · show dec room false len [dig V 4, dig V 3, dig V 2, dig V 1] i used 0 0 out = _
    rw [dec_dig hV hr (by omega) 0 h5.symm, dec_dig hV hr (by omega) _ rfl, dec_dig hV hr (by omega) _ rfl, dec_dig hV hr (by omega) _ rfl, dec]; simp [fin]

theorem pre_take {t u : List UInt8} (h : t <+: u) : t = u.take t.length := List.prefix_iff_eq_take.1 h

theorem dec_pre_part {x t : List UInt8} {V k i : Nat} {out : List UInt8} (hV : V < 4294967296) (he : enc x = (dig5 V).take k) (hk : k ≤ 4) (ht : t <+: enc x) (hr : out.length + 4 ≤ room) :
    ∃ q, 4 * q ≤ x.length ∧ (enc (x.take (4 * q))).length ≤ t.length ∧ t.drop (enc (x.take (4 * q))).length <+: enc (x.drop (4 * q)) ∧ dec room false len t i i 0 0 out = (out ++ x.take (4 * q), i + (enc (x.take (4 * q))).length, none) := by
  refine ⟨0, by omega, by simp [enc], by simpa [enc] using ht, ?_⟩
  have e := pre_take ht
  rw [he, List.take_take] at e
  rw [e, dec_part hV hr _ (by omega)]
  simp [enc]

/-- a text that is cut anywhere, not flushed: its whole groups -/
theorem dec_pre : ∀ (x t : List UInt8) (i : Nat) (out : List UInt8), t <+: enc x → out.length + 4 * t.length + 4 ≤ room →
    ∃ q, 4 * q ≤ x.length ∧ (enc (x.take (4 * q))).length ≤ t.length ∧ t.drop (enc (x.take (4 * q))).length <+: enc (x.drop (4 * q)) ∧ dec room false len t i i 0 0 out = (out ++ x.take (4 * q), i + (enc (x.take (4 * q))).length, none)
  | [], t, i, out, ht, hr => by
    have e : t = [] := by simpa [enc] using ht
    subst e
    exact ⟨0, by simp, by simp [enc], by simp, by simp [enc, dec, fin]⟩
  | [a], t, i, out, ht, hr => dec_pre_part (V := be4 a 0 0 0) (k := 2) (be4_lt _ _ _ _) (by simp [enc]) (by omega) ht (by omega)
  | [a, b], t, i, out, ht, hr => dec_pre_part (V := be4 a b 0 0) (k := 3) (be4_lt _ _ _ _) (by simp [enc]) (by omega) ht (by omega)
  | [a, b, c], t, i, out, ht, hr => dec_pre_part (V := be4 a b c 0) (k := 4) (be4_lt _ _ _ _) (by simp [enc]) (by omega) ht (by omega)
  | a :: b :: c :: d :: y, t, i, out, ht, hr => by
    rw [enc_cons4] at ht
    by_cases hl : (grp (be4 a b c d)).length ≤ t.length
    · obtain ⟨t', rfl⟩ : ∃ t', t = grp (be4 a b c d) ++ t' := by
        have := List.prefix_of_prefix_length_le (List.prefix_append (grp (be4 a b c d)) (enc y)) ht hl
        obtain ⟨t', h⟩ := this
        exact ⟨t', h.symm⟩
      have ht' : t' <+: enc y := (List.prefix_append_right_inj _).1 ht
      have hg := grp_len (be4 a b c d)
      rw [List.length_append] at hr
      obtain ⟨q, h1, h2, h3, h4⟩ := dec_pre y t' (i + (grp (be4 a b c d)).length) (out ++ [a, b, c, d]) ht' (by simp; omega)
      have ek : 4 * (q + 1) = 4 * q + 1 + 1 + 1 + 1 := by omega
      refine ⟨q + 1, by simp; omega, ?_, ?_, ?_⟩
      · rw [ek]
        simp only [List.take_succ_cons, enc_cons4, List.length_append]
        omega
      · rw [ek]
        simp only [List.take_succ_cons, List.drop_succ_cons, enc_cons4, List.length_append]
        rw [List.drop_append, List.drop_eq_nil_of_le (by omega), List.nil_append, show (grp (be4 a b c d)).length + (enc (y.take (4 * q))).length - (grp (be4 a b c d)).length = (enc (y.take (4 * q))).length by omega]
        exact h3
      · rw [dec_cons4 (by omega), h4, ek]
        simp only [List.take_succ_cons, enc_cons4, List.length_append]
        simp [Nat.add_assoc]
    · refine ⟨0, by omega, by simp [enc], by simpa [enc, enc_cons4] using ht, ?_⟩
      have hp : t <+: grp (be4 a b c d) := List.prefix_of_prefix_length_le ht (List.prefix_append _ _) (by omega)
      have e := pre_take hp
      have : dec room false len t i i 0 0 out = (out, i, none) := by
        unfold grp at e hl
        split at e
        · rename_i h0
          rw [if_pos h0] at hl
          have e0 : t = [] := List.eq_nil_of_length_eq_zero (by simp at hl; simp [hl])
          subst e0
          simp [dec, fin]
        · rename_i h0
          rw [if_neg h0] at hl
          rw [e]
          exact dec_part (be4_lt a b c d) (by omega) _ (by simp [dig5] at hl; omega)
      rw [this]
      simp [enc]

/-- a z between groups -/
theorem dec_insert (k : Nat) (x : List UInt8) (hk : 4 * k ≤ x.length) (hr : 4 * k + 4 + (x.length - 4 * k + 3) / 4 * 4 ≤ room) :
    dec room true len (enc (x.take (4 * k)) ++ ([122] ++ enc (x.drop (4 * k)))) 0 0 0 0 [] = (x.take (4 * k) ++ ([0, 0, 0, 0] ++ x.drop (4 * k)), len, none) := by
  have hl : (x.take (4 * k)).length = 4 * k := by rw [List.length_take]; omega
  rw [dec_groups k _ _ 0 0 [] hl (by simp; omega) (fun _ => rfl)]
  show dec room true len (122 :: enc (x.drop (4 * k))) _ _ 0 0 _ = _
  rw [dec_z (by simp; omega), dec_all _ _ _ _ (by simp; omega)]
  simp

/-- a z behind one to four digits -/
theorem dec_inside (q : Nat) (x : List UInt8) (hx : x.length = 4 * q) (hr : 4 * q + 4 ≤ room) (n : Nat) (h1 : 1 ≤ n) (h4 : n ≤ 4) :
    dec room flush len (enc x ++ (List.replicate n 53 ++ [122])) 0 0 0 0 [] = ([], 0, some ((enc x).length + n)) := by
  rw [dec_groups q _ _ 0 0 [] hx (by simp; omega) (fun _ => rfl)]
  have hroom : ([] ++ x : List UInt8).length + 4 ≤ room := by simp; omega
  have hz : ∀ (i used v nb : Nat), nb ≠ 0 → dec room flush len [122] i used v nb ([] ++ x) = ([], 0, some i) := fun i used v nb h => by
    rw [dec, if_neg (by omega), if_neg (by decide), if_neg (fun h' => h h'.2), if_neg (by decide)]
  have hd : ∀ (r : List UInt8) (i used v nb : Nat), nb < 4 → dec room flush len (53 :: r) i used v nb ([] ++ x) = dec room flush len r (i + 1) used ((v * 85 + 20) % 4294967296) (nb + 1) ([] ++ x) := fun r i used v nb h =>
    dec_digit hroom (by decide) (by decide) h _ (by rfl)
  have : n = 1 ∨ n = 2 ∨ n = 3 ∨ n = 4 := by omega
  rcases this with rfl | rfl | rfl | rfl
  · show dec room flush len [53, 122] _ _ 0 0 _ = _
    rw [hd _ _ _ _ _ (by omega), hz _ _ _ _ (by omega)]; simp
  · show dec room flush len [53, 53, 122] _ _ 0 0 _ = _
    rw [hd _ _ _ _ _ (by omega), hd _ _ _ _ _ (by omega), hz _ _ _ _ (by omega)]; simp
  · show dec room flush len [53, 53, 53, 122] _ _ 0 0 _ = _
    rw [hd _ _ _ _ _ (by omega), hd _ _ _ _ _ (by omega), hd _ _ _ _ _ (by omega), hz _ _ _ _ (by omega)]; simp
  · show dec room flush len [53, 53, 53, 53, 122] _ _ 0 0 _ = _
    rw [hd _ _ _ _ _ (by omega), hd _ _ _ _ _ (by omega), hd _ _ _ _ _ (by omega), hd _ _ _ _ _ (by omega), hz _ _ _ _ (by omega)]; simp

theorem dec_behind (q : Nat) (x : List UInt8) (hx : x.length = 4 * q) (hr : 4 * q + 4 ≤ room) : (dec room flush len (enc x ++ [122]) 0 0 0 0 []).2.2 = none := by
  rw [dec_groups q _ _ 0 0 [] hx (by simp; omega) (fun _ => rfl), dec_z (by simp; omega), dec]
  unfold fin
  split <;> simp

/-- five digits in the place of z -/
def encP : List UInt8 → List UInt8
  | a :: b :: c :: d :: r => dig5 (be4 a b c d) ++ encP r
  | [a, b, c] => (dig5 (be4 a b c 0)).take 4
  | [a, b] => (dig5 (be4 a b 0 0)).take 3
  | [a] => (dig5 (be4 a 0 0 0)).take 2
  | [] => []
theorem encP_cons4 (a b c d : UInt8) (r : List UInt8) : encP (a :: b :: c :: d :: r) = dig5 (be4 a b c d) ++ encP r := by rw [encP]
def pz (b : UInt8) : List UInt8 := if b.toNat = 122 then [33, 33, 33, 33, 33] else [b]
theorem pz_dig (v k : Nat) : pz (dig v k) = [dig v k] := by
  unfold pz
  rw [if_neg (by have := dig_hi v k; omega)]
theorem pz_grp (V : Nat) : (grp V).flatMap pz = dig5 V := by
  unfold grp
  split
  · rename_i h
    subst h
    decide
  · simp [dig5, pz_dig]
theorem enc_plain : ∀ x : List UInt8, (enc x).flatMap pz = encP x
  | a :: b :: c :: d :: r => by rw [enc_cons4, encP_cons4, List.flatMap_append, pz_grp, enc_plain r]
  | [a, b, c] => by simp [enc, encP, dig5, pz_dig]
  | [a, b] => by simp [enc, encP, dig5, pz_dig]
  | [a] => by simp [enc, encP, dig5, pz_dig]
  | [] => by simp [enc, encP]
theorem encP_groups : ∀ (q : Nat) (x : List UInt8), x.length = 4 * q → (encP x).length = 5 * q
  | 0, x, h => by
    have : x = [] := List.eq_nil_of_length_eq_zero (by omega)
    subst this; simp [encP]
  | q + 1, x, h => by
    match x, h with
    | a :: b :: c :: d :: r, h =>
      rw [encP_cons4, List.length_append, encP_groups q r (by simp at h; omega)]
      simp [dig5]; omega
theorem encP_append : ∀ (n : Nat) (x y : List UInt8), x.length = 4 * n → encP (x ++ y) = encP x ++ encP y
  | 0, x, y, h => by
    have : x = [] := List.eq_nil_of_length_eq_zero (by omega)
    subst this; simp [encP]
  | n + 1, x, y, h => by
    match x, h with
    | a :: b :: c :: d :: r, h =>
      have hr : r.length = 4 * n := by simp at h; omega
      simp only [List.cons_append, encP_cons4, encP_append n r y hr, List.append_assoc]
theorem encP_len : ∀ x : List UInt8, (encP x).length ≤ (x.length + 3) / 4 * 5
  | a :: b :: c :: d :: r => by
    have ih := encP_len r
    rw [encP_cons4, List.length_append]
    simp only [List.length_cons, dig5, List.length_nil]
    omega
  | [a, b, c] => by simp [encP, dig5]
  | [a, b] => by simp [encP, dig5]
  | [a] => by simp [encP, dig5]
  | [] => by simp [encP]
theorem groups_leP : ∀ x : List UInt8, (x.length + 3) / 4 ≤ (encP x).length
  | a :: b :: c :: d :: r => by
    have ih := groups_leP r
    rw [encP_cons4, List.length_append]
    simp only [List.length_cons, dig5, List.length_nil]
    omega
  | [a, b, c] => by simp [encP, dig5]
  | [a, b] => by simp [encP, dig5]
  | [a] => by simp [encP, dig5]
  | [] => by simp [encP]
theorem dec_groupsP : ∀ (q : Nat) (x : List UInt8) (i used : Nat) (out : List UInt8), x.length = 4 * q → out.length + 4 * q ≤ room → (q = 0 → used = i) →
    dec room flush len (encP x) i used 0 0 out = dec room flush len [] (i + 5 * q) (i + 5 * q) 0 0 (out ++ x)
  | 0, x, i, used, out, hx, _, hu => by
    have : x = [] := List.eq_nil_of_length_eq_zero (by omega)
    subst this
    simp [encP, hu rfl]
  | q + 1, x, i, used, out, hx, hr, _ => by
    match x, hx with
    | a :: b :: c :: d :: y, hx =>
      have hy : y.length = 4 * q := by simp at hx; omega
      rw [encP_cons4, dec_five (be4_lt a b c d) (by omega), b4_be4, dec_groupsP q y _ _ _ hy (by simp; omega) (fun _ => rfl)]
      simp only [List.append_assoc, List.cons_append, List.nil_append]
      rw [show i + 5 + 5 * q = i + 5 * (q + 1) by omega]
theorem dec_allP (x : List UInt8) (i used : Nat) (out : List UInt8) (hr : out.length + (x.length + 3) / 4 * 4 ≤ room) : dec room true len (encP x) i used 0 0 out = (out ++ x, len, none) := by
  match x, hr with
  | [], _ => simp [encP, dec, fin]
  | [a], hr => have e : encP [a] = enc [a] := by simp [encP, enc]
               rw [e]; exact dec_frag1 (by simpa using hr)
  | [a, b], hr => have e : encP [a, b] = enc [a, b] := by simp [encP, enc]
                  rw [e]; exact dec_frag2 (by simpa using hr)
  | [a, b, c], hr => have e : encP [a, b, c] = enc [a, b, c] := by simp [encP, enc]
                     rw [e]; exact dec_frag3 (by simpa using hr)
  | a :: b :: c :: d :: y, hr =>
    simp only [List.length_cons] at hr
    rw [encP_cons4, dec_five (be4_lt a b c d) (by omega), b4_be4, dec_allP y _ _ _ (by simp; omega)]
    simp
end

end Go.Proofs.YtemojkjcnkbpoaaGreatDoor.Asc

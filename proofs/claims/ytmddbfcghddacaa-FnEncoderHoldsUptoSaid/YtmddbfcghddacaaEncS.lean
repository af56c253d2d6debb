/-
  The state of ascii85.Encode's loop, and what each kind of round makes of it. No condition.
-/
import Derived.Test.YtmddbfcghddacaaAsc
import Derived.Test.YtmddbfcghddacaaRow
import Derived.Lib.EndianBits
namespace Go.Proofs.Ytmddbfcghddacaa
open Go.RowKit

theorem u32_or0 (x : Int) (h0 : 0 ≤ x) (h1 : x < 4294967296) : bits .or .u32 0 x = x := by
  have := bits_join .u32 32 (by decide) wraps_u32 32 0 x (by omega) (by omega) (by omega) h0 (by omega) (by omega)
  simpa using this

/-- what lies in memory while Encode goes on: 't' is written, 'rest' is to come -/
structure EncSt (w : World) (g o D : Nat) (cs : Array Value) (bs rest t : List UInt8) (ad A : Option Addr) (L cd m c nn : Nat) (wr : World) : Prop where
  txt : t ++ Asc.enc rest = Asc.enc bs
  hm : m = rest.length
  hmc : m ≤ c
  hc : c ≤ 9223372036854775807
  src : rest = [] ∨ ∃ b s, A = some ⟨b, s, none⟩ ∧ (b ≠ g ∨ s + rest.length ≤ o ∨ o + D ≤ s) ∧ ∀ i x, rest[i]? = some x → w.cell? ⟨b, s + i, none⟩ = some (.int .u8 (x.toNat : Int))
  hL : L + t.length = D
  hLc : L ≤ cd
  hcd : cd ≤ 4611686018427387904
  hn : nn = t.length
  room : (rest.length + 3) / 4 * 5 ≤ L
  dst : 0 < L → ad = some ⟨g, o + t.length, none⟩
  world : ∃ cr, wr = w.setRow g cr ∧ Upd o (o + D) cs cr ∧ ∀ i x, t[i]? = some x → cr[o + i]? = some (.int .u8 (x.toNat : Int))

theorem EncSt.cells {w : World} {g o D : Nat} {cs : Array Value} {bs rest t : List UInt8} {ad A : Option Addr} {L cd m c nn : Nat} {wr : World} (h : EncSt w g o D cs bs rest t ad A L cd m c nn wr)
    (T : TypeId) (hg : w.heap[g]? = some (.cells cs T (0, 0))) (hu8 : ∀ i, i < D → ∃ z : Int, cs[o + i]? = some (.int .u8 z)) (hr : rest ≠ []) :
    ∃ b s P, A = some ⟨b, s, none⟩ ∧ ad = some ⟨g, P, none⟩ ∧ 5 ≤ L ∧ (b ≠ g ∨ s + m ≤ P ∨ P + 5 ≤ s) ∧ (∀ i x, rest[i]? = some x → wr.cell? ⟨b, s + i, none⟩ = some (.int .u8 (x.toNat : Int))) ∧
      (∀ i, i < L → ∃ z : Int, wr.cell? ⟨g, P + i, none⟩ = some (.int .u8 z)) ∧ (∀ i, wr.frozen? ⟨g, i, none⟩ = false) ∧ P = o + t.length := by
  obtain ⟨cr, hw, hupd, ht⟩ := h.world
  have hlen : 0 < rest.length := List.length_pos_iff.2 hr
  have hroom := h.room
  have hL5 : 5 ≤ L := by omega
  have hLt := h.hL
  rcases h.src with e | ⟨b, s, rfl, hd, hc⟩
  · exact absurd e hr
  refine ⟨b, s, o + t.length, rfl, h.dst (by omega), hL5, ?_, ?_, ?_, ?_, rfl⟩
  · have := h.hm
    omega
  · intro i x hx
    have hi : i < rest.length := (List.getElem?_eq_some_iff.1 hx).1
    subst hw
    by_cases hb : b = g
    · subst hb
      rw [cell_setRow w b (s + i) cs cr T (0, 0) hg, hupd.out _ (by omega), ← cell_of_row w b (s + i) cs T (0, 0) hg]
      exact hc i x hx
    · rw [cell_setRow_other w g _ cr hb]
      exact hc i x hx
  · intro i hi
    subst hw
    rw [cell_setRow w g _ cs cr T (0, 0) hg, Nat.add_assoc]
    exact hupd.u8 _ (by omega) (by omega) (hu8 _ (by omega))
  · intro i
    subst hw
    exact frozen_setRow w g i cs cr T hg

/-- the five zeros that a round begins with -/
def zeros5 (wr : World) (g P : Nat) : World :=
  ((((wr.setCell ⟨g, P, none⟩ (.int .u8 0)).setCell ⟨g, P + 1, none⟩ (.int .u8 0)).setCell ⟨g, P + 2, none⟩ (.int .u8 0)).setCell ⟨g, P + 3, none⟩ (.int .u8 0)).setCell ⟨g, P + 4, none⟩ (.int .u8 0)

theorem zeros5_eq (wr : World) (g P : Nat) : zeros5 wr g P = wr.setCells g P [.int .u8 0, .int .u8 0, .int .u8 0, .int .u8 0, .int .u8 0] := rfl

theorem zeros5_src {wr : World} {g P b s m i : Nat} {v : Value} (hdis : b ≠ g ∨ s + m ≤ P ∨ P + 5 ≤ s) (hi : i < m) (h : wr.cell? ⟨b, s + i, none⟩ = some v) : (zeros5 wr g P).cell? ⟨b, s + i, none⟩ = some v := by
  rw [zeros5_eq, World.cell?_setCells_out g _ _ _ _ (fun h1 _ => ?_)]
  · exact h
  · simp only [List.length_cons, List.length_nil] at *
    omega

theorem zeros5_dst {wr : World} {g P : Nat} (h : ∀ i, i < 5 → ∃ z : Int, wr.cell? ⟨g, P + i, none⟩ = some (.int .u8 z)) : ∀ i, i < 5 → (zeros5 wr g P).cell? ⟨g, P + i, none⟩ = some (.int .u8 0) := by
  intro i hi
  have key := World.cell?_setCells_in g [.int .u8 0, .int .u8 0, .int .u8 0, .int .u8 0, .int .u8 0] P wr (fun j hj => by
    obtain ⟨z, hz⟩ := h j hj
    rw [hz]
    rfl) i hi
  rw [zeros5_eq, key]
  have hmem := List.getElem_mem (l := [Value.int .u8 0, .int .u8 0, .int .u8 0, .int .u8 0, .int .u8 0]) hi
  generalize ([Value.int .u8 0, .int .u8 0, .int .u8 0, .int .u8 0, .int .u8 0])[i] = x at hmem ⊢
  simp only [List.mem_cons, List.not_mem_nil, or_false] at hmem
  rcases hmem with e | e | e | e | e <;> rw [e]

theorem zeros5_frozen {wr : World} {g P : Nat} (h : ∀ i, wr.frozen? ⟨g, i, none⟩ = false) : ∀ i, (zeros5 wr g P).frozen? ⟨g, i, none⟩ = false := by
  intro i
  rw [zeros5_eq, World.frozen?_setCells]
  exact h i

/-- the five zeros, then the five digits -/
theorem EncSt.digits {w : World} {g o D : Nat} {cs : Array Value} {bs rest t r : List UInt8} {ad ad' A A' : Option Addr} {L cd m c nn m' c' L' cd' : Nat} {wr : World} (h : EncSt w g o D cs bs rest t ad A L cd m c nn wr)
    (T : TypeId) (hg : w.heap[g]? = some (.cells cs T (0, 0))) (hu8 : ∀ i, i < D → ∃ z : Int, cs[o + i]? = some (.int .u8 z)) (P V k q : Nat) (hP : P = o + t.length) (hk : k ≤ 5) (hL5 : 5 ≤ L)
    (hrest : rest.drop q = r) (henc : Asc.enc rest = (Asc.dig5 V).take k ++ Asc.enc r) (hm' : m' = r.length) (hmc' : m' ≤ c') (hc' : c' ≤ 9223372036854775807)
    (hsrc : ∀ b s, A = some ⟨b, s, none⟩ → r ≠ [] → A' = some ⟨b, s + q, none⟩) (hL' : L' + k = L) (hLc' : L' ≤ cd') (hcd' : cd' ≤ 4611686018427387904) (hroom : (r.length + 3) / 4 * 5 ≤ L')
    (hdst : 0 < L' → ad' = some ⟨g, P + k, none⟩) (n' : Nat) (hn' : n' = nn + k)
    (v0 v1 v2 v3 v4 : Int) (e0 : v0 = ((Asc.dig V 0).toNat : Int)) (e1 : v1 = ((Asc.dig V 1).toNat : Int)) (e2 : v2 = ((Asc.dig V 2).toNat : Int)) (e3 : v3 = ((Asc.dig V 3).toNat : Int)) (e4 : v4 = ((Asc.dig V 4).toNat : Int))
    (W W0 : World) (hW0 : W0 = zeros5 wr g P) (hW : W = ((((W0.setCell ⟨g, P + 4, none⟩ (.int .u8 v0)).setCell ⟨g, P + 3, none⟩ (.int .u8 v1)).setCell ⟨g, P + 2, none⟩ (.int .u8 v2)).setCell ⟨g, P + 1, none⟩ (.int .u8 v3)).setCell ⟨g, P, none⟩ (.int .u8 v4)) :
    EncSt w g o D cs bs r (t ++ (Asc.dig5 V).take k) ad' A' L' cd' m' c' n' W := by
  subst e0 e1 e2 e3 e4
  obtain ⟨cr, hw, hupd, ht⟩ := h.world
  have hLD := h.hL
  have htk : ((Asc.dig5 V).take k).length = k := by simp [Asc.dig5]; omega
  have hsz : o + D ≤ cr.size := by
    rcases Nat.eq_zero_or_pos D with h0 | h0
    · omega
    · obtain ⟨z, hz⟩ := hu8 (D - 1) (by omega)
      have := (Array.getElem?_eq_some_iff.1 hz).1
      have := hupd.size
      omega
  subst hw
  subst hW0
  simp only [zeros5, setRow_setCell w g _ cs _ T (0, 0) _ hg] at hW
  refine ⟨by rw [List.append_assoc, ← henc]; exact h.txt, hm', hmc', hc', ?_, by rw [List.length_append, htk]; omega, hLc', hcd', by rw [List.length_append, htk, hn', h.hn], hroom, fun h0 => ?_, ?_⟩
  · by_cases hr : r = []
    · exact .inl hr
    · rcases h.src with e | ⟨b, s, hA, hd, hc⟩
      · subst e; simp at hrest; exact absurd hrest hr
      · have hrl : 0 < r.length := List.length_pos_iff.2 hr
        have hql : r.length + q = rest.length := by
          have : (rest.drop q).length = r.length := by rw [hrest]
          rw [List.length_drop] at this
          omega
        refine .inr ⟨b, s + q, hsrc b s hA hr, by omega, fun i x hx => ?_⟩
        rw [Nat.add_assoc]
        refine hc (q + i) x ?_
        rw [← hrest, List.getElem?_drop] at hx
        exact hx
  · rw [hdst h0, List.length_append, htk, hP, Nat.add_assoc]
  · refine ⟨_, hW, ?_, ?_⟩
    · refine hupd.trans ?_
      repeat' (refine Upd.put ?_ _ _ (by omega) (by omega))
      exact Upd.refl _ _ _
    · intro i x hx
      by_cases hi : i < t.length
      · rw [List.getElem?_append_left hi] at hx
        simp only [Array.getElem?_setIfInBounds]
        repeat rw [if_neg (by omega)]
        exact ht i x hx
      · have hi2 : i - t.length < k := by
          have := (List.getElem?_eq_some_iff.1 hx).1
          rw [List.length_append, htk] at this
          omega
        rw [List.getElem?_append_right (by omega), List.getElem?_take, if_pos hi2] at hx
        obtain ⟨j, rfl⟩ : ∃ j, i = t.length + j := ⟨i - t.length, by omega⟩
        have ej : t.length + j - t.length = j := by omega
        rw [ej] at hx hi2
        have eP : o + (t.length + j) = P + j := by omega
        rw [eP]
        simp only [Array.getElem?_setIfInBounds, Array.size_setIfInBounds]
        match j, hi2, hx with
        | 0, _, hx => simp [Asc.dig5] at hx; subst hx; rw [if_pos (by omega), if_pos (by omega)]
        | 1, _, hx => simp [Asc.dig5] at hx; subst hx; rw [if_neg (by omega), if_pos (by omega), if_pos (by omega)]
        | 2, _, hx => simp [Asc.dig5] at hx; subst hx; rw [if_neg (by omega), if_neg (by omega), if_pos (by omega), if_pos (by omega)]
        | 3, _, hx => simp [Asc.dig5] at hx; subst hx; rw [if_neg (by omega), if_neg (by omega), if_neg (by omega), if_pos (by omega), if_pos (by omega)]
        | 4, _, hx => simp [Asc.dig5] at hx; subst hx; rw [if_neg (by omega), if_neg (by omega), if_neg (by omega), if_neg (by omega), if_pos (by omega), if_pos (by omega)]
        | j + 5, h5, _ => omega

/-- the five zeros, then a z -/
theorem EncSt.zero {w : World} {g o D : Nat} {cs : Array Value} {bs rest t r : List UInt8} {ad ad' A A' : Option Addr} {L cd m c nn m' c' L' cd' : Nat} {wr : World} (h : EncSt w g o D cs bs rest t ad A L cd m c nn wr)
    (T : TypeId) (hg : w.heap[g]? = some (.cells cs T (0, 0))) (hu8 : ∀ i, i < D → ∃ z : Int, cs[o + i]? = some (.int .u8 z)) (P q : Nat) (hP : P = o + t.length) (hL5 : 5 ≤ L)
    (hrest : rest.drop q = r) (henc : Asc.enc rest = [122] ++ Asc.enc r) (hm' : m' = r.length) (hmc' : m' ≤ c') (hc' : c' ≤ 9223372036854775807)
    (hsrc : ∀ b s, A = some ⟨b, s, none⟩ → r ≠ [] → A' = some ⟨b, s + q, none⟩) (hL' : L' + 1 = L) (hLc' : L' ≤ cd') (hcd' : cd' ≤ 4611686018427387904) (hroom : (r.length + 3) / 4 * 5 ≤ L')
    (hdst : 0 < L' → ad' = some ⟨g, P + 1, none⟩) (n' : Nat) (hn' : n' = nn + 1)
    (W W0 : World) (hW0 : W0 = zeros5 wr g P) (hW : W = W0.setCell ⟨g, P, none⟩ (.int .u8 122)) :
    EncSt w g o D cs bs r (t ++ [122]) ad' A' L' cd' m' c' n' W := by
  obtain ⟨cr, hw, hupd, ht⟩ := h.world
  have hLD := h.hL
  have hsz : o + D ≤ cr.size := by
    rcases Nat.eq_zero_or_pos D with h0 | h0
    · omega
    · obtain ⟨z, hz⟩ := hu8 (D - 1) (by omega)
      have := (Array.getElem?_eq_some_iff.1 hz).1
      have := hupd.size
      omega
  subst hw
  subst hW0
  simp only [zeros5, setRow_setCell w g _ cs _ T (0, 0) _ hg] at hW
  refine ⟨by rw [List.append_assoc, ← henc]; exact h.txt, hm', hmc', hc', ?_, by rw [List.length_append, List.length_singleton]; omega, hLc', hcd', by rw [List.length_append, List.length_singleton, hn', h.hn], hroom, fun h0 => ?_, ?_⟩
  · by_cases hr : r = []
    · exact .inl hr
    · rcases h.src with e | ⟨b, s, hA, hd, hc⟩
      · subst e; simp at hrest; exact absurd hrest hr
      · have hrl : 0 < r.length := List.length_pos_iff.2 hr
        have hql : r.length + q = rest.length := by
          have : (rest.drop q).length = r.length := by rw [hrest]
          rw [List.length_drop] at this
          omega
        refine .inr ⟨b, s + q, hsrc b s hA hr, by omega, fun i x hx => ?_⟩
        rw [Nat.add_assoc]
        refine hc (q + i) x ?_
        rw [← hrest, List.getElem?_drop] at hx
        exact hx
  · rw [hdst h0, List.length_append, List.length_singleton, hP, Nat.add_assoc]
  · refine ⟨_, hW, ?_, ?_⟩
    · refine hupd.trans ?_
      repeat' (refine Upd.put ?_ _ _ (by omega) (by omega))
      exact Upd.refl _ _ _
    · intro i x hx
      simp only [Array.getElem?_setIfInBounds, Array.size_setIfInBounds]
      by_cases hi : i < t.length
      · rw [List.getElem?_append_left hi] at hx
        repeat rw [if_neg (by omega)]
        exact ht i x hx
      · have := (List.getElem?_eq_some_iff.1 hx).1
        rw [List.length_append, List.length_singleton] at this
        obtain rfl : i = t.length := by omega
        rw [List.getElem?_append_right (by omega)] at hx
        simp at hx
        subst hx
        rw [if_pos (by omega), if_pos (by omega)]
        rfl

theorem dig_v0 (V : Nat) : 33 + (V : Int) % 85 = ((Asc.dig V 0).toNat : Int) := by rw [Asc.dig_toNat]; simp
theorem dig_v1 (V : Nat) : 33 + (V : Int) / 85 % 85 = ((Asc.dig V 1).toNat : Int) := by rw [Asc.dig_toNat]; simp
theorem dig_v2 (V : Nat) : 33 + (V : Int) / 85 / 85 % 85 = ((Asc.dig V 2).toNat : Int) := by rw [Asc.dig_toNat]; simp only [Nat.reducePow]; omega
theorem dig_v3 (V : Nat) : 33 + (V : Int) / 85 / 85 / 85 % 85 = ((Asc.dig V 3).toNat : Int) := by rw [Asc.dig_toNat]; simp only [Nat.reducePow]; omega
theorem dig_v4 (V : Nat) : 33 + (V : Int) / 85 / 85 / 85 / 85 % 85 = ((Asc.dig V 4).toNat : Int) := by rw [Asc.dig_toNat]; simp only [Nat.reducePow]; omega

end Go.Proofs.Ytmddbfcghddacaa

/-
  Several texts in one: EncS, Enc. Conditions: as each says.
-/
import Derived.Test.YtemojkjcnkbpoaaGreatDoorAsc
import Derived.Test.YtemojkjcnkbpoaaGreatDoorRow
import Derived.Lib.EndianBits
import Derived.Deep.LoopGhost
import Derived.Deep.DeepCutAuto
/-
  The state of ascii85.Encode's loop, and what each kind of round makes of it. No condition.
-/
namespace Go.Proofs.YtemojkjcnkbpoaaGreatDoor
open Go.RowKit

theorem u32_or0 (x : Int) (h0 : 0 ≤ x) (h1 : x < 4294967296) : bits .or .u32 0 x = x := by
  have := bits_join .u32 32 (by decide) wraps_u32 32 0 x (by omega) (by omega) (by omega) h0 (by omega) (by omega)
  simpa using this

/-- what lies in memory while Encode goes on: 't' is written, 'rest' is to come -/
structure EncSt (w : World) (g o D : Nat) (cs : Array Value) (bs rest t : List UInt8) (ad A : Option Addr) (L cd m c nn : Nat) (wr : World) : Prop where
  txt : t ++ Asc.enc rest = Asc.enc bs
  hm : m = rest.length
  hmc : m ≤ c
  hc : c ≤ 9223372036854775807
  src : rest = [] ∨ ∃ b s, A = some ⟨b, s, none⟩ ∧ (b ≠ g ∨ s + rest.length ≤ o ∨ o + D ≤ s) ∧ ∀ i x, rest[i]? = some x → w.cell? ⟨b, s + i, none⟩ = some (.int .u8 (x.toNat : Int))
  hL : L + t.length = D
  hLc : L ≤ cd
  hcd : cd ≤ 4611686018427387904
  hn : nn = t.length
  room : (rest.length + 3) / 4 * 5 ≤ L
  dst : 0 < L → ad = some ⟨g, o + t.length, none⟩
  world : ∃ cr, wr = w.setRow g cr ∧ Upd o (o + D) cs cr ∧ ∀ i x, t[i]? = some x → cr[o + i]? = some (.int .u8 (x.toNat : Int))

theorem EncSt.cells {w : World} {g o D : Nat} {cs : Array Value} {bs rest t : List UInt8} {ad A : Option Addr} {L cd m c nn : Nat} {wr : World} (h : EncSt w g o D cs bs rest t ad A L cd m c nn wr)
    (T : TypeId) (hg : w.heap[g]? = some (.cells cs T (0, 0))) (hu8 : ∀ i, i < D → ∃ z : Int, cs[o + i]? = some (.int .u8 z)) (hr : rest ≠ []) :
    ∃ b s P, A = some ⟨b, s, none⟩ ∧ ad = some ⟨g, P, none⟩ ∧ 5 ≤ L ∧ (b ≠ g ∨ s + m ≤ P ∨ P + 5 ≤ s) ∧ (∀ i x, rest[i]? = some x → wr.cell? ⟨b, s + i, none⟩ = some (.int .u8 (x.toNat : Int))) ∧
      (∀ i, i < L → ∃ z : Int, wr.cell? ⟨g, P + i, none⟩ = some (.int .u8 z)) ∧ (∀ i, wr.frozen? ⟨g, i, none⟩ = false) ∧ P = o + t.length := by
  obtain ⟨cr, hw, hupd, ht⟩ := h.world
  have hlen : 0 < rest.length := List.length_pos_iff.2 hr
  have hroom := h.room
  have hL5 : 5 ≤ L := by omega
  have hLt := h.hL
  rcases h.src with e | ⟨b, s, rfl, hd, hc⟩
  · exact absurd e hr
  refine ⟨b, s, o + t.length, rfl, h.dst (by omega), hL5, ?_, ?_, ?_, ?_, rfl⟩
  · have := h.hm
    omega
  · intro i x hx
    have hi : i < rest.length := (List.getElem?_eq_some_iff.1 hx).1
    subst hw
    by_cases hb : b = g
    · subst hb
      rw [cell_setRow w b (s + i) cs cr T (0, 0) hg, hupd.out _ (by omega), ← cell_of_row w b (s + i) cs T (0, 0) hg]
      exact hc i x hx
    · rw [cell_setRow_other w g _ cr hb]
      exact hc i x hx
  · intro i hi
    subst hw
    rw [cell_setRow w g _ cs cr T (0, 0) hg, Nat.add_assoc]
    exact hupd.u8 _ (by omega) (by omega) (hu8 _ (by omega))
  · intro i
    subst hw
    exact frozen_setRow w g i cs cr T hg

/-- the five zeros that a round begins with -/
def zeros5 (wr : World) (g P : Nat) : World :=
  ((((wr.setCell ⟨g, P, none⟩ (.int .u8 0)).setCell ⟨g, P + 1, none⟩ (.int .u8 0)).setCell ⟨g, P + 2, none⟩ (.int .u8 0)).setCell ⟨g, P + 3, none⟩ (.int .u8 0)).setCell ⟨g, P + 4, none⟩ (.int .u8 0)

theorem zeros5_eq (wr : World) (g P : Nat) : zeros5 wr g P = wr.setCells g P [.int .u8 0, .int .u8 0, .int .u8 0, .int .u8 0, .int .u8 0] := rfl

theorem zeros5_src {wr : World} {g P b s m i : Nat} {v : Value} (hdis : b ≠ g ∨ s + m ≤ P ∨ P + 5 ≤ s) (hi : i < m) (h : wr.cell? ⟨b, s + i, none⟩ = some v) : (zeros5 wr g P).cell? ⟨b, s + i, none⟩ = some v := by
  rw [zeros5_eq, World.cell?_setCells_out g _ _ _ _ (fun h1 _ => ?_)]
  · exact h
  · simp only [List.length_cons, List.length_nil] at *
    omega

theorem zeros5_dst {wr : World} {g P : Nat} (h : ∀ i, i < 5 → ∃ z : Int, wr.cell? ⟨g, P + i, none⟩ = some (.int .u8 z)) : ∀ i, i < 5 → (zeros5 wr g P).cell? ⟨g, P + i, none⟩ = some (.int .u8 0) := by
  intro i hi
  have key := World.cell?_setCells_in g [.int .u8 0, .int .u8 0, .int .u8 0, .int .u8 0, .int .u8 0] P wr (fun j hj => by
    obtain ⟨z, hz⟩ := h j hj
    rw [hz]
    rfl) i hi
  rw [zeros5_eq, key]
  have hmem := List.getElem_mem (l := [Value.int .u8 0, .int .u8 0, .int .u8 0, .int .u8 0, .int .u8 0]) hi
  generalize ([Value.int .u8 0, .int .u8 0, .int .u8 0, .int .u8 0, .int .u8 0])[i] = x at hmem ⊢
  simp only [List.mem_cons, List.not_mem_nil, or_false] at hmem
  rcases hmem with e | e | e | e | e <;> rw [e]

theorem zeros5_frozen {wr : World} {g P : Nat} (h : ∀ i, wr.frozen? ⟨g, i, none⟩ = false) : ∀ i, (zeros5 wr g P).frozen? ⟨g, i, none⟩ = false := by
  intro i
  rw [zeros5_eq, World.frozen?_setCells]
  exact h i

/-- the five zeros, then the five digits -/
theorem EncSt.digits {w : World} {g o D : Nat} {cs : Array Value} {bs rest t r : List UInt8} {ad ad' A A' : Option Addr} {L cd m c nn m' c' L' cd' : Nat} {wr : World} (h : EncSt w g o D cs bs rest t ad A L cd m c nn wr)
    (T : TypeId) (hg : w.heap[g]? = some (.cells cs T (0, 0))) (hu8 : ∀ i, i < D → ∃ z : Int, cs[o + i]? = some (.int .u8 z)) (P V k q : Nat) (hP : P = o + t.length) (hk : k ≤ 5) (hL5 : 5 ≤ L)
    (hrest : rest.drop q = r) (henc : Asc.enc rest = (Asc.dig5 V).take k ++ Asc.enc r) (hm' : m' = r.length) (hmc' : m' ≤ c') (hc' : c' ≤ 9223372036854775807)
    (hsrc : ∀ b s, A = some ⟨b, s, none⟩ → r ≠ [] → A' = some ⟨b, s + q, none⟩) (hL' : L' + k = L) (hLc' : L' ≤ cd') (hcd' : cd' ≤ 4611686018427387904) (hroom : (r.length + 3) / 4 * 5 ≤ L')
    (hdst : 0 < L' → ad' = some ⟨g, P + k, none⟩) (n' : Nat) (hn' : n' = nn + k)
    (v0 v1 v2 v3 v4 : Int) (e0 : v0 = ((Asc.dig V 0).toNat : Int)) (e1 : v1 = ((Asc.dig V 1).toNat : Int)) (e2 : v2 = ((Asc.dig V 2).toNat : Int)) (e3 : v3 = ((Asc.dig V 3).toNat : Int)) (e4 : v4 = ((Asc.dig V 4).toNat : Int))
    (W W0 : World) (hW0 : W0 = zeros5 wr g P) (hW : W = ((((W0.setCell ⟨g, P + 4, none⟩ (.int .u8 v0)).setCell ⟨g, P + 3, none⟩ (.int .u8 v1)).setCell ⟨g, P + 2, none⟩ (.int .u8 v2)).setCell ⟨g, P + 1, none⟩ (.int .u8 v3)).setCell ⟨g, P, none⟩ (.int .u8 v4)) :
    EncSt w g o D cs bs r (t ++ (Asc.dig5 V).take k) ad' A' L' cd' m' c' n' W := by
  subst e0 e1 e2 e3 e4
  obtain ⟨cr, hw, hupd, ht⟩ := h.world
  have hLD := h.hL
  have htk : ((Asc.dig5 V).take k).length = k := by simp [Asc.dig5]; omega
  have hsz : o + D ≤ cr.size := by
    rcases Nat.eq_zero_or_pos D with h0 | h0
    · omega
    · obtain ⟨z, hz⟩ := hu8 (D - 1) (by omega)
      have := (Array.getElem?_eq_some_iff.1 hz).1
      have := hupd.size
      omega
  subst hw
  subst hW0
  simp only [zeros5, setRow_setCell w g _ cs _ T (0, 0) _ hg] at hW
  refine ⟨by rw [List.append_assoc, ← henc]; exact h.txt, hm', hmc', hc', ?_, by rw [List.length_append, htk]; omega, hLc', hcd', by rw [List.length_append, htk, hn', h.hn], hroom, fun h0 => ?_, ?_⟩
  · by_cases hr : r = []
    · exact .inl hr
    · rcases h.src with e | ⟨b, s, hA, hd, hc⟩
      · subst e; simp at hrest; exact absurd hrest hr
      · have hrl : 0 < r.length := List.length_pos_iff.2 hr
        have hql : r.length + q = rest.length := by
          have : (rest.drop q).length = r.length := by rw [hrest]
          rw [List.length_drop] at this
          omega
        refine .inr ⟨b, s + q, hsrc b s hA hr, by omega, fun i x hx => ?_⟩
        rw [Nat.add_assoc]
        refine hc (q + i) x ?_
        rw [← hrest, List.getElem?_drop] at hx
        exact hx
  · rw [hdst h0, List.length_append, htk, hP, Nat.add_assoc]
  · refine ⟨_, hW, ?_, ?_⟩
    · refine hupd.trans ?_
      repeat' (refine Upd.put ?_ _ _ (by omega) (by omega))
      exact Upd.refl _ _ _
    · intro i x hx
      by_cases hi : i < t.length
      · rw [List.getElem?_append_left hi] at hx
        simp only [Array.getElem?_setIfInBounds]
        repeat rw [if_neg (by omega)]
        exact ht i x hx
      · have hi2 : i - t.length < k := by
          have := (List.getElem?_eq_some_iff.1 hx).1
          rw [List.length_append, htk] at this
          omega
        rw [List.getElem?_append_right (by omega), List.getElem?_take, if_pos hi2] at hx
        obtain ⟨j, rfl⟩ : ∃ j, i = t.length + j := ⟨i - t.length, by omega⟩
        have ej : t.length + j - t.length = j := by omega
        rw [ej] at hx hi2
        have eP : o + (t.length + j) = P + j := by omega
        rw [eP]
        simp only [Array.getElem?_setIfInBounds, Array.size_setIfInBounds]
        match j, hi2, hx with
        | 0, _, hx => simp [Asc.dig5] at hx; subst hx; rw [if_pos (by omega), if_pos (by omega)]
        | 1, _, hx => simp [Asc.dig5] at hx; subst hx; rw [if_neg (by omega), if_pos (by omega), if_pos (by omega)]
        | 2, _, hx => simp [Asc.dig5] at hx; subst hx; rw [if_neg (by omega), if_neg (by omega), if_pos (by omega), if_pos (by omega)]
        | 3, _, hx => simp [Asc.dig5] at hx; subst hx; rw [if_neg (by omega), if_neg (by omega), if_neg (by omega), if_pos (by omega), if_pos (by omega)]
        | 4, _, hx => simp [Asc.dig5] at hx; subst hx; rw [if_neg (by omega), if_neg (by omega), if_neg (by omega), if_neg (by omega), if_pos (by omega), if_pos (by omega)]
        | j + 5, h5, _ => omega

/-- the five zeros, then a z -/
theorem EncSt.zero {w : World} {g o D : Nat} {cs : Array Value} {bs rest t r : List UInt8} {ad ad' A A' : Option Addr} {L cd m c nn m' c' L' cd' : Nat} {wr : World} (h : EncSt w g o D cs bs rest t ad A L cd m c nn wr)
    (T : TypeId) (hg : w.heap[g]? = some (.cells cs T (0, 0))) (hu8 : ∀ i, i < D → ∃ z : Int, cs[o + i]? = some (.int .u8 z)) (P q : Nat) (hP : P = o + t.length) (hL5 : 5 ≤ L)
    (hrest : rest.drop q = r) (henc : Asc.enc rest = [122] ++ Asc.enc r) (hm' : m' = r.length) (hmc' : m' ≤ c') (hc' : c' ≤ 9223372036854775807)
    (hsrc : ∀ b s, A = some ⟨b, s, none⟩ → r ≠ [] → A' = some ⟨b, s + q, none⟩) (hL' : L' + 1 = L) (hLc' : L' ≤ cd') (hcd' : cd' ≤ 4611686018427387904) (hroom : (r.length + 3) / 4 * 5 ≤ L')
    (hdst : 0 < L' → ad' = some ⟨g, P + 1, none⟩) (n' : Nat) (hn' : n' = nn + 1)
    (W W0 : World) (hW0 : W0 = zeros5 wr g P) (hW : W = W0.setCell ⟨g, P, none⟩ (.int .u8 122)) :
    EncSt w g o D cs bs r (t ++ [122]) ad' A' L' cd' m' c' n' W := by
  obtain ⟨cr, hw, hupd, ht⟩ := h.world
  have hLD := h.hL
  have hsz : o + D ≤ cr.size := by
    rcases Nat.eq_zero_or_pos D with h0 | h0
    · omega
    · obtain ⟨z, hz⟩ := hu8 (D - 1) (by omega)
      have := (Array.getElem?_eq_some_iff.1 hz).1
      have := hupd.size
      omega
  subst hw
  subst hW0
  simp only [zeros5, setRow_setCell w g _ cs _ T (0, 0) _ hg] at hW
  refine ⟨by rw [List.append_assoc, ← henc]; exact h.txt, hm', hmc', hc', ?_, by rw [List.length_append, List.length_singleton]; omega, hLc', hcd', by rw [List.length_append, List.length_singleton, hn', h.hn], hroom, fun h0 => ?_, ?_⟩
  · by_cases hr : r = []
    · exact .inl hr
    · rcases h.src with e | ⟨b, s, hA, hd, hc⟩
      · subst e; simp at hrest; exact absurd hrest hr
      · have hrl : 0 < r.length := List.length_pos_iff.2 hr
        have hql : r.length + q = rest.length := by
          have : (rest.drop q).length = r.length := by rw [hrest]
          rw [List.length_drop] at this
          omega
        refine .inr ⟨b, s + q, hsrc b s hA hr, by omega, fun i x hx => ?_⟩
        rw [Nat.add_assoc]
        refine hc (q + i) x ?_
        rw [← hrest, List.getElem?_drop] at hx
        exact hx
  · rw [hdst h0, List.length_append, List.length_singleton, hP, Nat.add_assoc]
  · refine ⟨_, hW, ?_, ?_⟩
    · refine hupd.trans ?_
      repeat' (refine Upd.put ?_ _ _ (by omega) (by omega))
      exact Upd.refl _ _ _
    · intro i x hx
      simp only [Array.getElem?_setIfInBounds, Array.size_setIfInBounds]
      by_cases hi : i < t.length
      · rw [List.getElem?_append_left hi] at hx
        repeat rw [if_neg (by omega)]
        exact ht i x hx
      · have := (List.getElem?_eq_some_iff.1 hx).1
        rw [List.length_append, List.length_singleton] at this
        obtain rfl : i = t.length := by omega
        rw [List.getElem?_append_right (by omega)] at hx
        simp at hx
        subst hx
        rw [if_pos (by omega), if_pos (by omega)]
        rfl

theorem dig_v0 (V : Nat) : 33 + (V : Int) % 85 = ((Asc.dig V 0).toNat : Int) := by rw [Asc.dig_toNat]; simp
theorem dig_v1 (V : Nat) : 33 + (V : Int) / 85 % 85 = ((Asc.dig V 1).toNat : Int) := by rw [Asc.dig_toNat]; simp
theorem dig_v2 (V : Nat) : 33 + (V : Int) / 85 / 85 % 85 = ((Asc.dig V 2).toNat : Int) := by rw [Asc.dig_toNat]; simp only [Nat.reducePow]; omega
theorem dig_v3 (V : Nat) : 33 + (V : Int) / 85 / 85 / 85 % 85 = ((Asc.dig V 3).toNat : Int) := by rw [Asc.dig_toNat]; simp only [Nat.reducePow]; omega
theorem dig_v4 (V : Nat) : 33 + (V : Int) / 85 / 85 / 85 / 85 % 85 = ((Asc.dig V 4).toNat : Int) := by rw [Asc.dig_toNat]; simp only [Nat.reducePow]; omega

end Go.Proofs.YtemojkjcnkbpoaaGreatDoor

/-
  encoding/ascii85.Encode writes the text of src to dst and returns its length. Conditions: dst has room for MaxEncodedLen and shares no cell with src.
-/
namespace Go.Proofs.YtemojkjcnkbpoaaGreatDoor
open Go.RowKit

set_option maxRecDepth 100000 in
set_option maxHeartbeats 4000000 in
theorem encode_any (g o D C : Nat) (A : Option Addr) (m c : Nat) (bs : List UInt8) (cs : Array Value) (T : TypeId) (w : World) (hg : w.heap[g]? = some (.cells cs T (0, 0)))
    (hu8 : ∀ i, i < D → ∃ z : Int, cs[o + i]? = some (.int .u8 z)) (hDC : D ≤ C) (hC : C ≤ 4611686018427387904) (hm : m = bs.length) (hmc : m ≤ c) (hc : c ≤ 9223372036854775807)
    (hsrc : bs = [] ∨ ∃ b s, A = some ⟨b, s, none⟩ ∧ (b ≠ g ∨ s + bs.length ≤ o ∨ o + D ≤ s) ∧ ∀ i x, bs[i]? = some x → w.cell? ⟨b, s + i, none⟩ = some (.int .u8 (x.toNat : Int)))
    (hroom : (bs.length + 3) / 4 * 5 ≤ D) :
    Calls Tryz.prog 13 #[.slice (some ⟨g, o, none⟩) D C, .slice A m c] w fun e w' => e = .returned (.int .i64 ((Asc.enc bs).length : Int)) ∧
      ∃ cr, w' = w.setRow g cr ∧ Upd o (o + D) cs cr ∧ ∀ i x, (Asc.enc bs)[i]? = some x → cr[o + i]? = some (.int .u8 (x.toNat : Int)) := by
  by_cases hnil : bs = []
  · subst hnil
    obtain rfl : m = 0 := hm
    go_enter Tryz.func13, Tryz.ntmps13
    go_wp2
    go_ret
    exact ⟨rfl, cs, (setRow_same w g cs T (0, 0) hg).symm, Upd.refl _ _ _, by simp [Asc.enc]⟩
  · have hpos : 0 < m := by rw [hm]; exact List.length_pos_iff.2 hnil
    have st0 : EncSt w g o D cs bs bs [] (some ⟨g, o, none⟩) A D C m c 0 w :=
      ⟨by simp, hm, hmc, hc, hsrc, by simp, hDC, hC, rfl, hroom, fun _ => by simp, cs, (setRow_same w g cs T (0, 0) hg).symm, Upd.refl _ _ _, by simp⟩
    have HM := Lib.hid hm
    have HG := Lib.hid hg
    have HU := Lib.hid hu8
    have HST := Lib.hid st0
    clear hm hg hu8 st0 hsrc hnil
    have e0 : ((m : Int) == 0) = false := by simp; omega
    go_enter Tryz.func13, Tryz.ntmps13
    go_wp2
    go_loopg [0, 1, 5] m (fun gk d s n wr => ∃ (rest t : List UInt8) (ad A' : Option Addr) (L cd m' c' nn : Nat), d = .slice ad L cd ∧ s = .slice A' m' c' ∧ n = .int .i64 (nn : Int) ∧ gk = m' ∧ Hid (EncSt w g o D cs bs rest t ad A' L cd m' c' nn wr))
    case atStart => exact ⟨bs, [], _, _, D, C, m, c, 0, rfl, rfl, rfl, rfl, HST⟩
    case round =>
      clear HST e0 hpos
      obtain ⟨rest, t, ad, A', L, cd, m', c', nn, rfl, rfl, rfl, rfl, hst⟩ := hrel
      have hst' := hst.out
      have b1 := hst'.hmc
      have b2 := hst'.hc
      have b3 := hst'.hLc
      have b4 := hst'.hcd
      have b5 : nn + L ≤ 4611686018427387904 := by have := hst'.hn; have := hst'.hL; omega
      by_cases hr : rest = []
      · subst hr
        have hm0 := hst'.hm
        simp only [List.length_nil] at hm0
        subst hm0
        have hfin : (Asc.enc bs).length = nn := by rw [← hst'.txt, hst'.hn]; simp [Asc.enc]
        have HF := Lib.hid hfin
        have HW := Lib.hid hst'.world
        have HT := Lib.hid hst'.txt
        clear hfin hst'
        go_wp2
        go_ret
        refine ⟨by rw [HF.out]; rfl, ?_⟩
        obtain ⟨cr, h1, h2, h3⟩ := HW.out
        refine ⟨cr, h1, h2, ?_⟩
        rw [← HT.out]
        simpa [Asc.enc] using h3
      · obtain ⟨b, s, P, rfl, rfl, hL5, hdis, hcs, hcd, hfz, hP⟩ := hst'.cells T HG.out HU.out hr
        have HP := Lib.hid hP
        have HCS := Lib.hid hcs
        have HR := Lib.hid hst'.room
        have HMM := Lib.hid hst'.hm
        obtain ⟨z0, d0⟩ := hcd 0 (by omega)
        obtain ⟨z1, d1⟩ := hcd 1 (by omega)
        obtain ⟨z2, d2⟩ := hcd 2 (by omega)
        obtain ⟨z3, d3⟩ := hcd 3 (by omega)
        obtain ⟨z4, d4⟩ := hcd 4 (by omega)
        rw [Nat.add_zero] at d0
        clear hP hcs hst'
        match rest, hr with
        | [x0], _ =>
          obtain rfl : gk = 1 := HMM.out
          have s0 := HCS.out 0 x0 (by simp)
          rw [Nat.add_zero] at s0
          have hx0 := x0.toNat_lt
          have o1 := u32_or0 ((x0.toNat : Int) * 16777216) (by omega) (by omega)
          have hV : (x0.toNat : Int) * 16777216 = (Asc.be4 x0 0 0 0 : Int) := by unfold Asc.be4; simp only [UInt8.toNat_zero]; omega
          replace o1 := o1.trans hV
          have henc : Asc.enc [x0] = (Asc.dig5 (Asc.be4 x0 0 0 0)).take 2 ++ Asc.enc [] := by simp [Asc.enc]
          have hVb := Asc.be4_lt x0 0 0 0
          clear hV
          generalize Asc.be4 x0 0 0 0 = V at *
          have HE := Lib.hid henc
          clear henc
          go_upto_region 9 with (fail)
          go_cut [] (fun wc => Hid (wc = zeros5 wr g P))
          case first =>
            go_wp2
            go_meet
            exact rfl
          case rest =>
            have q0 : wc.cell? ⟨b, s, none⟩ = some (.int .u8 (x0.toNat : Int)) := by rw [hcut.out]; exact zeros5_src (i := 0) hdis (by omega) s0
            have hz := zeros5_dst (g := g) (P := P) (fun i hi => hcd i (by omega))
            rw [← hcut.out] at hz
            have p0 := hz 0 (by omega)
            have p1 := hz 1 (by omega)
            have p2 := hz 2 (by omega)
            have p3 := hz 3 (by omega)
            have p4 := hz 4 (by omega)
            rw [Nat.add_zero] at p0
            have hfy : ∀ i, wc.frozen? ⟨g, i, none⟩ = false := by rw [hcut.out]; exact zeros5_frozen hfz
            clear hz hfz d0 d1 d2 d3 d4 s0 hdis
            have hck : ¬ cd = 2 := by omega
            by_cases hV0 : V = 0
            · have hV1 : ((V : Int) == 0) = true := by simp; omega
              have HV0 := Lib.hid hV0
              clear hV0
              go_wp2
              refine wp_loop_rounds 6 ?_
              iterate 6 (rw [rounds_succ]; go_wp2)
              go_roundg 0
              case measure => omega
              case rel =>
                refine ⟨[], t ++ (Asc.dig5 V).take 2, _, _, _, _, 0, _, nn + 2, rfl, rfl, by go_num, rfl, ?_⟩
                have hrr := HR.out
                simp only [List.length_cons, List.length_nil] at hrr
                exact hst.out.digits (r := []) (m' := 0) T HG.out HU.out P V 2 1 HP.out (by omega) hL5 rfl HE.out rfl (by omega) (by omega) (fun _ _ _ h => absurd rfl h) (by omega) (by omega) (by omega) (by simp) (fun _ => rfl) _ rfl _ _ _ _ _ (dig_v0 V) (dig_v1 V) (dig_v2 V) (dig_v3 V) (dig_v4 V) _ wc hcut.out rfl
            · have hV1 : ((V : Int) == 0) = false := by simp; omega
              go_wp2
              refine wp_loop_rounds 6 ?_
              iterate 6 (rw [rounds_succ]; go_wp2)
              go_roundg 0
              case measure => omega
              case rel =>
                refine ⟨[], t ++ (Asc.dig5 V).take 2, _, _, _, _, 0, _, nn + 2, rfl, rfl, by go_num, rfl, ?_⟩
                have hrr := HR.out
                simp only [List.length_cons, List.length_nil] at hrr
                exact hst.out.digits (r := []) (m' := 0) T HG.out HU.out P V 2 1 HP.out (by omega) hL5 rfl HE.out rfl (by omega) (by omega) (fun _ _ _ h => absurd rfl h) (by omega) (by omega) (by omega) (by simp) (fun _ => rfl) _ rfl _ _ _ _ _ (dig_v0 V) (dig_v1 V) (dig_v2 V) (dig_v3 V) (dig_v4 V) _ wc hcut.out rfl
        | [x0, x1], _ =>
          obtain rfl : gk = 2 := HMM.out
          have s0 := HCS.out 0 x0 (by simp)
          have s1 := HCS.out 1 x1 (by simp)
          rw [Nat.add_zero] at s0
          have hx0 := x0.toNat_lt
          have hx1 := x1.toNat_lt
          have o1 := u32_or0 ((x1.toNat : Int) * 65536) (by omega) (by omega)
          have o2 := u32_or24 ((x1.toNat : Int) * 65536) ((x0.toNat : Int) * 16777216) (by omega) (by omega) (by omega) (by omega) (by omega)
          have hV : (x1.toNat : Int) * 65536 + (x0.toNat : Int) * 16777216 = (Asc.be4 x0 x1 0 0 : Int) := by unfold Asc.be4; simp only [UInt8.toNat_zero]; omega
          replace o2 := o2.trans hV
          have henc : Asc.enc [x0, x1] = (Asc.dig5 (Asc.be4 x0 x1 0 0)).take 3 ++ Asc.enc [] := by simp [Asc.enc]
          have hVb := Asc.be4_lt x0 x1 0 0
          clear hV
          generalize Asc.be4 x0 x1 0 0 = V at *
          have HE := Lib.hid henc
          clear henc
          go_upto_region 9 with (fail)
          go_cut [] (fun wc => Hid (wc = zeros5 wr g P))
          case first =>
            go_wp2
            go_meet
            exact rfl
          case rest =>
            have q0 : wc.cell? ⟨b, s, none⟩ = some (.int .u8 (x0.toNat : Int)) := by rw [hcut.out]; exact zeros5_src (i := 0) hdis (by omega) s0
            have q1 : wc.cell? ⟨b, s + 1, none⟩ = some (.int .u8 (x1.toNat : Int)) := by rw [hcut.out]; exact zeros5_src hdis (by omega) s1
            have hz := zeros5_dst (g := g) (P := P) (fun i hi => hcd i (by omega))
            rw [← hcut.out] at hz
            have p0 := hz 0 (by omega)
            have p1 := hz 1 (by omega)
            have p2 := hz 2 (by omega)
            have p3 := hz 3 (by omega)
            have p4 := hz 4 (by omega)
            rw [Nat.add_zero] at p0
            have hfy : ∀ i, wc.frozen? ⟨g, i, none⟩ = false := by rw [hcut.out]; exact zeros5_frozen hfz
            clear hz hfz d0 d1 d2 d3 d4 s0 s1 hdis
            have hck : ¬ cd = 3 := by omega
            by_cases hV0 : V = 0
            · have hV1 : ((V : Int) == 0) = true := by simp; omega
              have HV0 := Lib.hid hV0
              clear hV0
              go_wp2
              refine wp_loop_rounds 6 ?_
              iterate 6 (rw [rounds_succ]; go_wp2)
              go_roundg 0
              case measure => omega
              case rel =>
                refine ⟨[], t ++ (Asc.dig5 V).take 3, _, _, _, _, 0, _, nn + 3, rfl, rfl, by go_num, rfl, ?_⟩
                have hrr := HR.out
                simp only [List.length_cons, List.length_nil] at hrr
                exact hst.out.digits (r := []) (m' := 0) T HG.out HU.out P V 3 2 HP.out (by omega) hL5 rfl HE.out rfl (by omega) (by omega) (fun _ _ _ h => absurd rfl h) (by omega) (by omega) (by omega) (by simp) (fun _ => rfl) _ rfl _ _ _ _ _ (dig_v0 V) (dig_v1 V) (dig_v2 V) (dig_v3 V) (dig_v4 V) _ wc hcut.out rfl
            · have hV1 : ((V : Int) == 0) = false := by simp; omega
              go_wp2
              refine wp_loop_rounds 6 ?_
              iterate 6 (rw [rounds_succ]; go_wp2)
              go_roundg 0
              case measure => omega
              case rel =>
                refine ⟨[], t ++ (Asc.dig5 V).take 3, _, _, _, _, 0, _, nn + 3, rfl, rfl, by go_num, rfl, ?_⟩
                have hrr := HR.out
                simp only [List.length_cons, List.length_nil] at hrr
                exact hst.out.digits (r := []) (m' := 0) T HG.out HU.out P V 3 2 HP.out (by omega) hL5 rfl HE.out rfl (by omega) (by omega) (fun _ _ _ h => absurd rfl h) (by omega) (by omega) (by omega) (by simp) (fun _ => rfl) _ rfl _ _ _ _ _ (dig_v0 V) (dig_v1 V) (dig_v2 V) (dig_v3 V) (dig_v4 V) _ wc hcut.out rfl
        | [x0, x1, x2], _ =>
          obtain rfl : gk = 3 := HMM.out
          have s0 := HCS.out 0 x0 (by simp)
          have s1 := HCS.out 1 x1 (by simp)
          have s2 := HCS.out 2 x2 (by simp)
          rw [Nat.add_zero] at s0
          have hx0 := x0.toNat_lt
          have hx1 := x1.toNat_lt
          have hx2 := x2.toNat_lt
          have o1 := u32_or0 ((x2.toNat : Int) * 256) (by omega) (by omega)
          have o2 := u32_or16 ((x2.toNat : Int) * 256) ((x1.toNat : Int) * 65536) (by omega) (by omega) (by omega) (by omega) (by omega)
          have o3 := u32_or24 ((x2.toNat : Int) * 256 + (x1.toNat : Int) * 65536) ((x0.toNat : Int) * 16777216) (by omega) (by omega) (by omega) (by omega) (by omega)
          have hV : (x2.toNat : Int) * 256 + (x1.toNat : Int) * 65536 + (x0.toNat : Int) * 16777216 = (Asc.be4 x0 x1 x2 0 : Int) := by unfold Asc.be4; simp only [UInt8.toNat_zero]; omega
          replace o3 := o3.trans hV
          have henc : Asc.enc [x0, x1, x2] = (Asc.dig5 (Asc.be4 x0 x1 x2 0)).take 4 ++ Asc.enc [] := by simp [Asc.enc]
          have hVb := Asc.be4_lt x0 x1 x2 0
          clear hV
          generalize Asc.be4 x0 x1 x2 0 = V at *
          have HE := Lib.hid henc
          clear henc
          go_upto_region 9 with (fail)
          go_cut [] (fun wc => Hid (wc = zeros5 wr g P))
          case first =>
            go_wp2
            go_meet
            exact rfl
          case rest =>
            have q0 : wc.cell? ⟨b, s, none⟩ = some (.int .u8 (x0.toNat : Int)) := by rw [hcut.out]; exact zeros5_src (i := 0) hdis (by omega) s0
            have q1 : wc.cell? ⟨b, s + 1, none⟩ = some (.int .u8 (x1.toNat : Int)) := by rw [hcut.out]; exact zeros5_src hdis (by omega) s1
            have q2 : wc.cell? ⟨b, s + 2, none⟩ = some (.int .u8 (x2.toNat : Int)) := by rw [hcut.out]; exact zeros5_src hdis (by omega) s2
            have hz := zeros5_dst (g := g) (P := P) (fun i hi => hcd i (by omega))
            rw [← hcut.out] at hz
            have p0 := hz 0 (by omega)
            have p1 := hz 1 (by omega)
            have p2 := hz 2 (by omega)
            have p3 := hz 3 (by omega)
            have p4 := hz 4 (by omega)
            rw [Nat.add_zero] at p0
            have hfy : ∀ i, wc.frozen? ⟨g, i, none⟩ = false := by rw [hcut.out]; exact zeros5_frozen hfz
            clear hz hfz d0 d1 d2 d3 d4 s0 s1 s2 hdis
            have hck : ¬ cd = 4 := by omega
            by_cases hV0 : V = 0
            · have hV1 : ((V : Int) == 0) = true := by simp; omega
              have HV0 := Lib.hid hV0
              clear hV0
              go_wp2
              refine wp_loop_rounds 6 ?_
              iterate 6 (rw [rounds_succ]; go_wp2)
              go_roundg 0
              case measure => omega
              case rel =>
                refine ⟨[], t ++ (Asc.dig5 V).take 4, _, _, _, _, 0, _, nn + 4, rfl, rfl, by go_num, rfl, ?_⟩
                have hrr := HR.out
                simp only [List.length_cons, List.length_nil] at hrr
                exact hst.out.digits (r := []) (m' := 0) T HG.out HU.out P V 4 3 HP.out (by omega) hL5 rfl HE.out rfl (by omega) (by omega) (fun _ _ _ h => absurd rfl h) (by omega) (by omega) (by omega) (by simp) (fun _ => rfl) _ rfl _ _ _ _ _ (dig_v0 V) (dig_v1 V) (dig_v2 V) (dig_v3 V) (dig_v4 V) _ wc hcut.out rfl
            · have hV1 : ((V : Int) == 0) = false := by simp; omega
              go_wp2
              refine wp_loop_rounds 6 ?_
              iterate 6 (rw [rounds_succ]; go_wp2)
              go_roundg 0
              case measure => omega
              case rel =>
                refine ⟨[], t ++ (Asc.dig5 V).take 4, _, _, _, _, 0, _, nn + 4, rfl, rfl, by go_num, rfl, ?_⟩
                have hrr := HR.out
                simp only [List.length_cons, List.length_nil] at hrr
                exact hst.out.digits (r := []) (m' := 0) T HG.out HU.out P V 4 3 HP.out (by omega) hL5 rfl HE.out rfl (by omega) (by omega) (fun _ _ _ h => absurd rfl h) (by omega) (by omega) (by omega) (by simp) (fun _ => rfl) _ rfl _ _ _ _ _ (dig_v0 V) (dig_v1 V) (dig_v2 V) (dig_v3 V) (dig_v4 V) _ wc hcut.out rfl
        | x0 :: x1 :: x2 :: x3 :: r, _ =>
          have hm4 : 4 ≤ gk := by have := HMM.out; simp at this; omega
          have s0 := HCS.out 0 x0 (by simp)
          have s1 := HCS.out 1 x1 (by simp)
          have s2 := HCS.out 2 x2 (by simp)
          have s3 := HCS.out 3 x3 (by simp)
          rw [Nat.add_zero] at s0
          have hx0 := x0.toNat_lt
          have hx1 := x1.toNat_lt
          have hx2 := x2.toNat_lt
          have hx3 := x3.toNat_lt
          have e3 : ((gk : Int) == 3) = false := by simp; omega
          have e2 : ((gk : Int) == 2) = false := by simp; omega
          have e1 : ((gk : Int) == 1) = false := by simp; omega
          have o1 := u32_or0 (x3.toNat : Int) (by omega) (by omega)
          have o2 := u32_or8 (x3.toNat : Int) ((x2.toNat : Int) * 256) (by omega) (by omega) (by omega) (by omega) (by omega)
          have o3 := u32_or16 ((x3.toNat : Int) + (x2.toNat : Int) * 256) ((x1.toNat : Int) * 65536) (by omega) (by omega) (by omega) (by omega) (by omega)
          have o4 := u32_or24 ((x3.toNat : Int) + (x2.toNat : Int) * 256 + (x1.toNat : Int) * 65536) ((x0.toNat : Int) * 16777216) (by omega) (by omega) (by omega) (by omega) (by omega)
          have hV : (x3.toNat : Int) + (x2.toNat : Int) * 256 + (x1.toNat : Int) * 65536 + (x0.toNat : Int) * 16777216 = (Asc.be4 x0 x1 x2 x3 : Int) := by unfold Asc.be4; omega
          rw [hV] at o4
          have henc := Asc.enc_cons4 x0 x1 x2 x3 r
          have hVb := Asc.be4_lt x0 x1 x2 x3
          clear hV
          generalize Asc.be4 x0 x1 x2 x3 = V at *
          have HE := Lib.hid henc
          clear henc
          go_upto_region 9 with (fail)
          go_cut [] (fun wc => Hid (wc = zeros5 wr g P))
          case first =>
            go_wp2
            go_meet
            exact rfl
          case rest =>
            have q0 : wc.cell? ⟨b, s, none⟩ = some (.int .u8 (x0.toNat : Int)) := by rw [hcut.out]; exact zeros5_src (i := 0) hdis (by omega) s0
            have q1 : wc.cell? ⟨b, s + 1, none⟩ = some (.int .u8 (x1.toNat : Int)) := by rw [hcut.out]; exact zeros5_src hdis (by omega) s1
            have q2 : wc.cell? ⟨b, s + 2, none⟩ = some (.int .u8 (x2.toNat : Int)) := by rw [hcut.out]; exact zeros5_src hdis (by omega) s2
            have q3 : wc.cell? ⟨b, s + 3, none⟩ = some (.int .u8 (x3.toNat : Int)) := by rw [hcut.out]; exact zeros5_src hdis (by omega) s3
            have hz := zeros5_dst (g := g) (P := P) (fun i hi => hcd i (by omega))
            rw [← hcut.out] at hz
            have p0 := hz 0 (by omega)
            have p1 := hz 1 (by omega)
            have p2 := hz 2 (by omega)
            have p3 := hz 3 (by omega)
            have p4 := hz 4 (by omega)
            rw [Nat.add_zero] at p0
            have hfy : ∀ i, wc.frozen? ⟨g, i, none⟩ = false := by rw [hcut.out]; exact zeros5_frozen hfz
            clear hz hfz d0 d1 d2 d3 d4 s0 s1 s2 s3 hdis
            by_cases hV0 : V = 0
            · subst hV0
              have l1 : ¬ cd = 1 := by omega
              by_cases hc4 : c' = 4
              all_goals
                go_wp2
                go_roundg (gk - 4)
                case measure => omega
                case rel =>
                  refine ⟨r, t ++ [122], _, _, _, _, _, _, nn + 1, rfl, rfl, by go_num, rfl, ?_⟩
                  have hmm := HMM.out
                  have hrr := HR.out
                  simp only [List.length_cons] at hmm hrr
                  refine hst.out.zero (r := r) T HG.out HU.out P 4 HP.out hL5 rfl (by rw [HE.out]; rfl) (by omega) (by omega) (by omega) ?_ (by omega) (by omega) (by omega) (by omega) (fun _ => rfl) _ rfl _ wc hcut.out rfl
                  intro b' s' hA hne
                  have hpos := List.length_pos_iff.2 hne
                  first
                    | (exfalso; omega)
                    | (injection hA with hA; injection hA with h1 h2; subst h1; subst h2; rfl)
            · have hV1 : ((V : Int) == 0) = false := by simp; omega
              by_cases hc4 : c' = 4
              all_goals
                by_cases hc5 : cd = 5
                all_goals
                  go_wp2
                  refine wp_loop_rounds 6 ?_
                  iterate 6 (rw [rounds_succ]; go_wp2)
                  go_roundg (gk - 4)
                  case measure => omega
                  case rel =>
                    refine ⟨r, t ++ (Asc.dig5 V).take 5, _, _, _, _, _, _, nn + 5, rfl, rfl, by go_num, rfl, ?_⟩
                    have hmm := HMM.out
                    have hrr := HR.out
                    simp only [List.length_cons] at hmm hrr
                    refine hst.out.digits (r := r) T HG.out HU.out P V 5 4 HP.out (by omega) hL5 rfl (by rw [HE.out, Asc.grp, if_neg hV0]; rfl) (by omega) (by omega) (by omega) ?_ (by omega) (by omega) (by omega) (by omega) ?_ _ rfl _ _ _ _ _ (dig_v0 V) (dig_v1 V) (dig_v2 V) (dig_v3 V) (dig_v4 V) _ wc hcut.out rfl
                    · intro b' s' hA hne
                      have hpos := List.length_pos_iff.2 hne
                      first
                        | (exfalso; omega)
                        | (injection hA with hA; injection hA with h1 h2; subst h1; subst h2; rfl)
                    · intro h0
                      first
                        | (exfalso; omega)
                        | rfl


end Go.Proofs.YtemojkjcnkbpoaaGreatDoor


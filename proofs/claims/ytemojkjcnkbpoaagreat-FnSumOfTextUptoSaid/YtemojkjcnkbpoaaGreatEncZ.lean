/-
  Several texts in one: EncB, EncC, EncW. Conditions: as each says.
-/
import Derived.Test.YtemojkjcnkbpoaaGreatRow
import Derived.Test.YtemojkjcnkbpoaaGreatFr
import Derived.Test.YtemojkjcnkbpoaaGreatAsc
import Derived.Test.YtemojkjcnkbpoaaGreatEncA
import Derived.Deep.RegionWith
import Derived.Deep.RegionHeld3
import Derived.Deep.DeepCutAuto
import Derived.Outline
import Derived.Test.YtemojkjcnkbpoaaGreatSlc
import Derived.Deep.LoopGhost
import Derived.Laws.IdiomCopy
import Derived.Laws.CopyRow
/-
  The block of an ascii85 encoder, and what stores into it make of it; a writer that an encoder writes to. No condition.
-/
namespace Go.Proofs.YtemojkjcnkbpoaaGreat
open Go.RowKit

/-- the cells of an encoder: no error, its writer, the bytes that wait, how many, the room for a text -/
structure EncCs (wv : Value) (buf : List UInt8) (cs : Array Value) : Prop where
  size : cs.size = 1031
  err : cs[0]? = some .nilIface
  wr : cs[1]? = some wv
  nbuf : cs[6]? = some (.int .i64 (buf.length : Int))
  bts : ∀ (i : Nat) (x : UInt8), buf[i]? = some x → cs[2 + i]? = some (Value.int .u8 (x.toNat : Int))
  len : buf.length ≤ 4
  b4 : ∀ i, i < 4 → ∃ z : Int, cs[2 + i]? = some (.int .u8 z)
  out : ∀ i, i < 1024 → ∃ z : Int, cs[7 + i]? = some (.int .u8 z)

def EncB (w : World) (ge : Nat) (wv : Value) (buf : List UInt8) : Prop :=
  ∃ cs, w.heap[ge]? = some (.cells cs 100 (0, 0)) ∧ EncCs wv buf cs

theorem EncB.keep {w w' : World} {ge : Nat} {wv : Value} {buf : List UInt8} (h : EncB w ge wv buf) (hk : w'.heap[ge]? = w.heap[ge]?) : EncB w' ge wv buf := by
  obtain ⟨cs, h1, h2⟩ := h
  exact ⟨cs, hk.trans h1, h2⟩
theorem EncB.lt {w : World} {ge : Nat} {wv : Value} {buf : List UInt8} (h : EncB w ge wv buf) : ge < w.heap.size := by
  obtain ⟨cs, h1, _⟩ := h
  exact (Array.getElem?_eq_some_iff.1 h1).1

theorem EncB.cells {w : World} {ge : Nat} {wv : Value} {buf : List UInt8} (h : EncB w ge wv buf) :
    w.cell? ⟨ge, 0, none⟩ = some .nilIface ∧ w.cell? ⟨ge, 1, none⟩ = some wv ∧ w.cell? ⟨ge, 6, none⟩ = some (.int .i64 (buf.length : Int)) ∧ (∀ (i : Nat) (x : UInt8), buf[i]? = some x → w.cell? ⟨ge, 2 + i, none⟩ = some (Value.int .u8 (x.toNat : Int))) ∧
      (∀ i, i < 4 → ∃ z : Int, w.cell? ⟨ge, 2 + i, none⟩ = some (.int .u8 z)) ∧ ∀ i, w.frozen? ⟨ge, i, none⟩ = false := by
  obtain ⟨cs, h1, h2⟩ := h
  refine ⟨?_, ?_, ?_, fun i x hx => ?_, fun i hi => ?_, fun i => frozen_of_row w ge i cs _ h1⟩
  · rw [cell_of_row w ge _ _ _ _ h1]; exact h2.err
  · rw [cell_of_row w ge _ _ _ _ h1]; exact h2.wr
  · rw [cell_of_row w ge _ _ _ _ h1]; exact h2.nbuf
  · rw [cell_of_row w ge _ _ _ _ h1]; exact h2.bts i x hx
  · rw [cell_of_row w ge _ _ _ _ h1]; exact h2.b4 i hi

theorem heap_set_same (w : World) (ge i : Nat) (cs : Array Value) (T : TypeId) (v : Value) (h : w.heap[ge]? = some (.cells cs T (0, 0))) : (w.setCell ⟨ge, i, none⟩ v).heap[ge]? = some (.cells (cs.setIfInBounds i v) T (0, 0)) := by
  simp [World.setCell, Array.getElem?_modify, h]

/-- one byte more waits: it is stored, then it is counted -/
theorem EncB.put {w : World} {ge : Nat} {wv : Value} {buf : List UInt8} (h : EncB w ge wv buf) (hl : buf.length < 4) (x : UInt8) (j : Nat) (hj : j = 2 + buf.length) (z : Int) (hz : z = (buf.length : Int) + 1) :
    EncB ((w.setCell ⟨ge, j, none⟩ (.int .u8 (x.toNat : Int))).setCell ⟨ge, 6, none⟩ (.int .i64 z)) ge wv (buf ++ [x]) := by
  subst hj hz
  obtain ⟨cs, h1, h2⟩ := h
  refine ⟨_, heap_set_same _ ge 6 _ _ _ (heap_set_same w ge _ cs _ _ h1), ?_⟩
  have sz := h2.size
  refine ⟨by simp [sz], ?_, ?_, ?_, fun i y hy => ?_, by simp; omega, fun i hi => ?_, fun i hi => ?_⟩
  · rw [Array.getElem?_setIfInBounds, if_neg (by omega), Array.getElem?_setIfInBounds, if_neg (by omega)]; exact h2.err
  · rw [Array.getElem?_setIfInBounds, if_neg (by omega), Array.getElem?_setIfInBounds, if_neg (by omega)]; exact h2.wr
  · rw [Array.getElem?_setIfInBounds, if_pos rfl, if_pos (by simp [sz])]; simp
  · have hil : i < (buf ++ [x]).length := (List.getElem?_eq_some_iff.1 hy).1
    rw [List.length_append, List.length_singleton] at hil
    rw [Array.getElem?_setIfInBounds, if_neg (by omega), Array.getElem?_setIfInBounds]
    by_cases hi : buf.length = i
    · subst hi
      rw [if_pos rfl, if_pos (by omega)]
      rw [List.getElem?_append_right (Nat.le_refl _), Nat.sub_self] at hy
      simp at hy
      rw [hy]
    · rw [if_neg (by omega)]
      rw [List.getElem?_append_left (by omega)] at hy
      exact h2.bts i y hy
  · rw [Array.getElem?_setIfInBounds, if_neg (by omega), Array.getElem?_setIfInBounds]
    split
    · rw [if_pos (by omega)]; exact ⟨_, rfl⟩
    · exact h2.b4 i hi
  · rw [Array.getElem?_setIfInBounds, if_neg (by omega), Array.getElem?_setIfInBounds, if_neg (by omega)]; exact h2.out i hi

/-- a text is written to the room behind -/
theorem EncB.text {w : World} {ge : Nat} {wv : Value} {buf : List UInt8} {cs cr : Array Value} (h1 : w.heap[ge]? = some (.cells cs 100 (0, 0))) (h2 : EncCs wv buf cs) (hu : Upd 7 (7 + 1024) cs cr) : EncB (w.setRow ge cr) ge wv buf := by
  refine ⟨cr, setRow_heap w ge cs cr _ _ h1, ?_⟩
  refine ⟨hu.size.trans h2.size, ?_, ?_, ?_, fun i x hx => ?_, h2.len, fun i hi => ?_, fun i hi => ?_⟩
  · rw [hu.out 0 (by omega)]; exact h2.err
  · rw [hu.out 1 (by omega)]; exact h2.wr
  · rw [hu.out 6 (by omega)]; exact h2.nbuf
  · have := (List.getElem?_eq_some_iff.1 hx).1
    have := h2.len
    rw [hu.out (2 + i) (by omega)]; exact h2.bts i x hx
  · rw [hu.out (2 + i) (by omega)]; exact h2.b4 i hi
  · exact hu.u8 _ (by omega) (by omega) (h2.out i hi)

/-- no error is stored where there was none -/
theorem EncB.err {w : World} {ge : Nat} {wv : Value} {buf : List UInt8} (h : EncB w ge wv buf) : EncB (w.setCell ⟨ge, 0, none⟩ .nilIface) ge wv buf := by
  obtain ⟨cs, h1, h2⟩ := h
  refine ⟨_, heap_set_same w ge 0 cs _ _ h1, ?_⟩
  have sz := h2.size
  have e : cs.setIfInBounds 0 .nilIface = cs := by
    apply Array.ext_getElem?
    intro k
    rw [Array.getElem?_setIfInBounds]
    split
    · subst_vars
      rw [if_pos (by omega), h2.err]
    · rfl
  rw [e]
  exact h2

/-- what waits is counted anew: none -/
theorem EncB.clr {w : World} {ge : Nat} {wv : Value} {buf : List UInt8} (h : EncB w ge wv buf) : EncB (w.setCell ⟨ge, 6, none⟩ (.int .i64 0)) ge wv [] := by
  obtain ⟨cs, h1, h2⟩ := h
  have sz := h2.size
  refine ⟨_, heap_set_same w ge 6 cs _ _ h1, ?_⟩
  refine ⟨by simp [sz], ?_, ?_, ?_, by simp, by simp, fun i hi => ?_, fun i hi => ?_⟩
  · rw [Array.getElem?_setIfInBounds, if_neg (by omega)]; exact h2.err
  · rw [Array.getElem?_setIfInBounds, if_neg (by omega)]; exact h2.wr
  · rw [Array.getElem?_setIfInBounds, if_pos rfl, if_pos (by omega)]; rfl
  · rw [Array.getElem?_setIfInBounds, if_neg (by omega)]; exact h2.b4 i hi
  · rw [Array.getElem?_setIfInBounds, if_neg (by omega)]; exact h2.out i hi

theorem cell_off (w : World) (g i j : Nat) (u v : Value) (h : i ≠ j) (hv : w.cell? ⟨g, j, none⟩ = some v) : (w.setCell ⟨g, i, none⟩ u).cell? ⟨g, j, none⟩ = some v := by
  rw [World.cell?_setCell_other w ⟨g, i, none⟩ ⟨g, j, none⟩ u (fun e => by injection e with _ e _; exact h e)]; exact hv

/-- a writer (at pw, of type tw, whose Write is fW), and what is collected of it: 'St w M txt rows': in the world w it has been given txt, rows have been collected; the blocks of M are its own. -/
structure Wtr (P : Program) (tw : TypeId) (pw : Addr) (fW : FuncId) (St : World → (Nat → Prop) → List UInt8 → List (List UInt8) → Prop) : Prop where
  nil : ∀ k w, (nilAhead (k + 1) tw (.pointer (some pw)) "Write").run P w = .ok (some false) w
  met : ∀ k w, (method (k + 1) tw (.pointer (some pw)) "Write").run P w = .ok (fW, .pointer (some pw)) w
  ent : ∀ args w, (callFunc fW args).run P w = .ok (.enter fW args) w
  put : ∀ (w : World) (M : Nat → Prop) (txt : List UInt8) (rows : List (List UInt8)) (ge o n c : Nat) (chunk : List UInt8), St w M txt rows → ¬ M ge → ge < w.heap.size → (∃ cs T, w.heap[ge]? = some (.cells cs T (0, 0))) → n = chunk.length → 0 < n → n ≤ c → c ≤ 1024 →
    (∀ (i : Nat) (x : UInt8), chunk[i]? = some x → w.cell? ⟨ge, o + i, none⟩ = some (Value.int .u8 (x.toNat : Int))) → txt.length + n ≤ 20000000 →
    Calls P fW #[.pointer (some pw), .slice (some ⟨ge, o, none⟩) n c] w fun e w' => e = .returned (.tuple #[.int .i64 (n : Int), .nilIface]) ∧ ∃ M', St w' M' (txt ++ chunk) rows ∧ Fr M w w' ∧ ∀ k, k < w.heap.size → M' k → M k
  same : ∀ (w w' : World) (M : Nat → Prop) (txt : List UInt8) (rows : List (List UInt8)), St w M txt rows → (∀ k, M k → w'.heap[k]? = w.heap[k]?) → St w' M txt rows
  lt : ∀ (w : World) (M : Nat → Prop) (txt : List UInt8) (rows : List (List UInt8)), St w M txt rows → ∀ k, M k → k < w.heap.size

end Go.Proofs.YtemojkjcnkbpoaaGreat

/-
  encoding/ascii85's encoder: Close. Condition: it is an encoder that has met no error, over a writer that takes all.
-/
namespace Go.Proofs.YtemojkjcnkbpoaaGreat
open Go.RowKit
set_option linter.unusedVariables false

/-- Encode into the encoder's own room -/
theorem enc_text (ge : Nat) (wv : Value) (buf : List UInt8) (A : Option Addr) (m c : Nat) (bs : List UInt8) (w : World) (hE : EncB w ge wv buf) (hm : m = bs.length) (hmc : m ≤ c) (hc : c ≤ 9223372036854775807)
    (hsrc : bs = [] ∨ ∃ b s, A = some ⟨b, s, none⟩ ∧ (b ≠ ge ∨ s + bs.length ≤ 7) ∧ ∀ i x, bs[i]? = some x → w.cell? ⟨b, s + i, none⟩ = some (.int .u8 (x.toNat : Int))) (hroom : (bs.length + 3) / 4 * 5 ≤ 1024) :
    Calls Tryz.prog 22 #[.slice (some ⟨ge, 7, none⟩) 1024 1024, .slice A m c] w fun e w' => e = .returned (.int .i64 ((Asc.enc bs).length : Int)) ∧ EncB w' ge wv buf ∧
      (∀ i x, (Asc.enc bs)[i]? = some x → w'.cell? ⟨ge, 7 + i, none⟩ = some (.int .u8 (x.toNat : Int))) ∧ Fr (fun k => k = ge) w w' ∧ w'.heap.size = w.heap.size := by
  obtain ⟨cs, h1, h2⟩ := hE
  refine (encode_any ge 7 1024 1024 A m c bs cs 100 w h1 (fun i hi => h2.out i hi) (Nat.le_refl _) (by omega) hm hmc hc ?_ hroom).mono ?_
  · rcases hsrc with h | ⟨b, s, e, hd, hc⟩
    · exact .inl h
    · exact .inr ⟨b, s, e, hd.imp id (fun h => .inl h), hc⟩
  · rintro e w' ⟨rfl, cr, rfl, hu, hcr⟩
    refine ⟨rfl, EncB.text h1 h2 hu, fun i x hx => ?_, Fr.setRow (M := fun k => k = ge) (Fr.refl _ _) rfl _, by simp⟩
    rw [cell_setRow w ge _ cs cr _ _ h1]
    exact hcr i x hx

theorem Wtr.keep {P : Program} {tw : TypeId} {pw : Addr} {fW : FuncId} {St : World → (Nat → Prop) → List UInt8 → List (List UInt8) → Prop} (W : Wtr P tw pw fW St) {w w' : World} {M : Nat → Prop} {txt : List UInt8} {rows : List (List UInt8)} {ge : Nat}
    (h : St w M txt rows) (hM : ¬ M ge) (hf : Fr (fun k => k = ge) w w') : St w' M txt rows :=
  W.same w w' M txt rows h fun k hk => hf.block k (W.lt w M txt rows h k hk) (fun e => hM (e ▸ hk))

set_option maxRecDepth 100000 in
set_option maxHeartbeats 2000000 in
theorem enc_close {tw : TypeId} {pw : Addr} {fW : FuncId} {St : World → (Nat → Prop) → List UInt8 → List (List UInt8) → Prop} (W : Wtr Tryz.prog tw pw fW St) (ge : Nat) (buf : List UInt8) (w : World) (M : Nat → Prop) (txt : List UInt8) (rows : List (List UInt8))
    (hE : EncB w ge (.iface tw (.pointer (some pw))) buf) (hb : buf.length < 4) (hS : St w M txt rows) (hM : ¬ M ge) (hl : txt.length ≤ 10000000) :
    Calls Tryz.prog 157 #[.pointer (some ⟨ge, 0, none⟩)] w fun e w' => e = .returned .nilIface ∧ ∃ M', EncB w' ge (.iface tw (.pointer (some pw))) [] ∧ St w' M' (txt ++ Asc.enc buf) rows ∧ Fr (fun k => M k ∨ k = ge) w w' ∧ ∀ k, k < w.heap.size → M' k → M k := by
  by_cases h0 : buf = []
  · subst h0
    obtain ⟨c0, c1, c6, -, -, fz⟩ := hE.cells
    have HE := Lib.hid hE
    clear hE
    go_enter Tryz.func157, Tryz.ntmps157
    go_wp2
    go_ret
    exact ⟨rfl, M, HE.out, by rw [Asc.enc_nil, List.append_nil]; exact hS, Fr.refl _ _, fun _ _ h => h⟩
  · have hpos : 0 < buf.length := List.length_pos_iff.2 h0
    have hel := Asc.enc_len buf
    have hep := Asc.enc_pos hpos
    have hge := hE.lt
    obtain ⟨c0, c1, c6, cb, -, fz⟩ := hE.cells
    obtain ⟨m, hm⟩ : ∃ m, m = buf.length := ⟨_, rfl⟩
    obtain ⟨L, hL⟩ : ∃ L, L = (Asc.enc buf).length := ⟨_, rfl⟩
    have C1 : Hid (Calls Tryz.prog 22 #[.slice (some ⟨ge, 7, none⟩) 1024 1024, .slice (some ⟨ge, 2, none⟩) m 4] w.drew fun e w' => e = .returned (.int .i64 (L : Int)) ∧ Hid (EncB w' ge (.iface tw (.pointer (some pw))) buf ∧
      (∀ i x, (Asc.enc buf)[i]? = some x → w'.cell? ⟨ge, 7 + i, none⟩ = some (.int .u8 (x.toNat : Int))) ∧ Fr (fun k => k = ge) w w' ∧ w'.heap.size = w.heap.size)) := by
      rw [hL]
      exact (enc_text ge _ buf (some ⟨ge, 2, none⟩) m 4 buf w.drew hE hm (by omega) (by omega) (.inr ⟨ge, 2, rfl, .inr (by omega), cb⟩) (by omega)).mono fun e w' ⟨e1, e2, e3, e4, e5⟩ => ⟨e1, e2, e3, e4.undrew, e5⟩
    rw [← hm] at c6 hpos hb hel
    rw [← hL] at hep hel
    have HM := Lib.hid hm
    have HL := Lib.hid hL
    have HE := Lib.hid hE
    clear hE hm hL h0 cb
    have n1 := W.nil
    have n2 := W.met
    have n3 := W.ent
    have t1 : (1 : Int) ≤ (m : Int) := by omega
    have t2 : (m : Int) ≤ 4 := by omega
    have t3 : (0 : Int) ≤ (L : Int) := by omega
    have t4 : (L : Int) ≤ 1024 := by omega
    go_enter Tryz.func157, Tryz.ntmps157
    go_wp2
    go_region_with (go_at_call 22; refine C1.out.mono ?_; rintro e w2 ⟨rfl, h2⟩)
    obtain ⟨k1, k2, k3, k4⟩ := h2.out
    obtain ⟨d0, d1, d6, -, -, fy⟩ := k1.cells
    have q1 := k1.clr
    have K1 := Lib.hid k1
    clear c0 c1 c6 fz h2 k1 C1
    go_wp2_with fail
    obtain ⟨V, hV⟩ : ∃ V, w2.setCell ⟨ge, 6, none⟩ (.int .i64 0) = V := ⟨_, rfl⟩
    have fV : Fr (fun k => k = ge) w V := by subst hV; exact k3.setCell (p := ⟨ge, 6, none⟩) rfl _
    have cV : ∀ i x, (Asc.enc buf)[i]? = some x → V.cell? ⟨ge, 7 + i, none⟩ = some (.int .u8 (x.toNat : Int)) := by
      intro i x hx
      rw [← hV, World.cell?_setCell_other _ _ _ _ (by intro e; injection e with _ e; omega)]
      exact k2 i x hx
    rw [hV] at q1 ⊢
    have sV : V.heap.size = w.heap.size := by subst hV; simp [World.setCell, k4]
    have SV := W.keep hS hM fV
    obtain ⟨x0, x1, -, -, -, fx⟩ := q1.cells
    have C2 : Hid (Calls Tryz.prog fW #[.pointer (some pw), .slice (some ⟨ge, 7, none⟩) L 1024] V.drew fun e w' => e = .returned (.tuple #[.int .i64 (L : Int), .nilIface]) ∧ w'.cell? ⟨ge, 0, none⟩ = some .nilIface ∧ w'.cell? ⟨ge, 1, none⟩ = some (.iface tw (.pointer (some pw))) ∧ w'.frozen? ⟨ge, 0, none⟩ = false ∧ Hid (EncB w' ge (.iface tw (.pointer (some pw))) [] ∧
        ∃ M', St w' M' (txt ++ Asc.enc buf) rows ∧ Fr M V w' ∧ ∀ k, k < V.heap.size → M' k → M k)) := by
      refine (W.put V.drew M txt rows ge 7 L 1024 (Asc.enc buf) (W.same V V.drew M txt rows SV (fun _ _ => rfl)) hM (by show ge < V.heap.size; omega) (by obtain ⟨cs, h1, _⟩ := q1; exact ⟨cs, _, h1⟩) HL.out hep (by omega) (by omega) cV (by omega)).mono ?_
      rintro e w' ⟨e1, M', e2, e3, e4⟩
      have e3' := e3.undrew
      have hB : EncB w' ge (.iface tw (.pointer (some pw))) [] := q1.keep (e3'.block ge (by omega) hM)
      obtain ⟨y0, y1, -, -, -, fy⟩ := hB.cells
      exact ⟨e1, y0, y1, fy 0, hB, M', e2, e3', e4⟩
    have FV := Lib.hid fV
    have Q1 := Lib.hid q1
    clear hV q1 cV k2 k3 k4 d0 d1 d6 fy K1 fV
    go_wp2_with fail
    go_region_held3 (fun w' => w'.cell? ⟨ge, 1, none⟩ = some (.iface tw (.pointer (some pw)))) (first | go_keep | (exact cell_off _ _ _ _ _ _ (by decide) (by assumption))) (((with_reducible refine C2.out.mono ?_); rintro e w3 ⟨rfl, y0, y1, fy, h3⟩))
    go_wp2_with fail
    go_ret
    obtain ⟨b1, M', b2, b3, b4⟩ := h3.out
    have hM' : ¬ M' ge := fun h => hM (b4 ge (by omega) h)
    refine ⟨rfl, M', b1.err, W.keep b2 hM' (Fr.setCell (M := fun k => k = ge) (Fr.refl _ _) (p := ⟨ge, 0, none⟩) rfl _), ?_, fun k hk h => b4 k (by omega) h⟩
    refine Fr.setCell (M := fun k => M k ∨ k = ge) ?_ (p := ⟨ge, 0, none⟩) (.inr rfl) _
    exact (FV.out.mono (fun i _ h => .inr h)).trans b3 (fun i _ h => .inl h)

end Go.Proofs.YtemojkjcnkbpoaaGreat

/-
  encoding/ascii85's encoder: Write. Condition: it is an encoder that has met no error, over a writer that takes all; the lengths' bounds.
-/
namespace Go.Proofs.YtemojkjcnkbpoaaGreat
open Go.RowKit
set_option linter.unusedVariables false

/-- the text of the whole groups, and what is left -/
def encG (x : List UInt8) : List UInt8 := Asc.enc (x.take (4 * (x.length / 4)))
def dropG (x : List UInt8) : List UInt8 := x.drop (4 * (x.length / 4))

theorem encG_cut (x : List UInt8) (k q : Nat) (hk : k ≤ x.length) (h4 : k = 4 * q) : encG x = Asc.enc (x.take k) ++ encG (x.drop k) ∧ dropG x = dropG (x.drop k) := by
  subst h4
  have e : (x.drop (4 * q)).length / 4 = x.length / 4 - q := by rw [List.length_drop]; omega
  have e2 : 4 * q + 4 * (x.length / 4 - q) = 4 * (x.length / 4) := by omega
  constructor
  · unfold encG
    rw [e, ← Asc.enc_append q _ _ (by rw [List.length_take]; omega)]
    congr 1
    rw [← List.take_add, e2]
  · unfold dropG
    rw [e, List.drop_drop, e2]
theorem encG_short (x : List UInt8) (h : x.length < 4) : encG x = [] ∧ dropG x = x := by
  have e : x.length / 4 = 0 := by omega
  unfold encG dropG
  rw [e]
  exact ⟨by simp [Asc.enc_nil], by simp⟩
theorem dropG_len (x : List UInt8) : (dropG x).length < 4 := by unfold dropG; rw [List.length_drop]; omega
theorem encG_first (buf p : List UInt8) (i : Nat) (h : buf.length + i = 4) (hi : i ≤ p.length) : encG (buf ++ p) = Asc.enc (buf ++ p.take i) ++ encG (p.drop i) ∧ dropG (buf ++ p) = dropG (p.drop i) := by
  have h1 : (buf ++ p).take 4 = buf ++ p.take i := by rw [List.take_append, List.take_of_length_le (by omega)]; congr 2; omega
  have h2 : (buf ++ p).drop 4 = p.drop i := by rw [List.drop_append, List.drop_eq_nil_of_le (by omega), List.nil_append]; congr 1; omega
  have := encG_cut (buf ++ p) 4 1 (by rw [List.length_append]; omega) rfl
  rw [h1, h2] at this
  exact this

/-- bytes that lie apart from M and from the encoder's block -/
def RdN (w : World) (M : Nat → Prop) (ge : Nat) (A : Option Addr) (p : List UInt8) : Prop :=
  p = [] ∨ ∃ b o, A = some ⟨b, o, none⟩ ∧ b < w.heap.size ∧ ¬ M b ∧ b ≠ ge ∧ ∀ (i : Nat) (x : UInt8), p[i]? = some x → w.cell? ⟨b, o + i, none⟩ = some (.int .u8 (x.toNat : Int))
theorem RdN.keep {w w' : World} {M M' : Nat → Prop} {ge : Nat} {A : Option Addr} {p : List UInt8} (h : RdN w M ge A p) (hf : Fr (fun k => M k ∨ k = ge) w w') (hs : ∀ k, k < w.heap.size → M' k → M k) : RdN w' M' ge A p := by
  rcases h with h | ⟨b, o, h1, h2, h3, h4, h5⟩
  · exact .inl h
  · refine .inr ⟨b, o, h1, Nat.lt_of_lt_of_le h2 hf.size, fun h => h3 (hs b h2 h), h4, fun i x hx => ?_⟩
    rw [World.cell?_of_block (a := ⟨b, o + i, none⟩) (hf.block b h2 (fun h => h.elim h3 h4))]
    exact h5 i x hx
theorem RdN.cut {w : World} {M : Nat → Prop} {ge : Nat} {A A' : Option Addr} {p : List UInt8} {k : Nat} (h : RdN w M ge A p) (hA : ∀ b off, A = some ⟨b, off, none⟩ → k < p.length → A' = some ⟨b, off + k, none⟩) : RdN w M ge A' (p.drop k) := by
  rcases h with h | ⟨b, o, rfl, h2, h3, h4, h5⟩
  · exact .inl (by simp [h])
  · by_cases hk : k < p.length
    · refine .inr ⟨b, o + k, hA b o rfl hk, h2, h3, h4, fun i x hx => ?_⟩
      rw [List.getElem?_drop] at hx
      rw [Nat.add_assoc]
      exact h5 _ x hx
    · exact .inl (List.drop_eq_nil_of_le (by omega))
theorem RdN.at {w : World} {M : Nat → Prop} {ge : Nat} {A : Option Addr} {p : List UInt8} (h : RdN w M ge A p) {k : Nat} (hk : k < p.length) :
    ∃ b o x, A = some ⟨b, o, none⟩ ∧ b < w.heap.size ∧ ¬ M b ∧ b ≠ ge ∧ p[k]? = some x ∧ w.cell? ⟨b, o + k, none⟩ = some (.int .u8 (x.toNat : Int)) := by
  rcases h with h | ⟨b, o, h1, h2, h3, h4, h5⟩
  · subst h; simp at hk
  · exact ⟨b, o, p[k], h1, h2, h3, h4, List.getElem?_eq_getElem hk, h5 k _ (List.getElem?_eq_getElem hk)⟩

/-- the last bytes are copied to where they wait, and counted -/
theorem encB_tail {w : World} {ge : Nat} {wv : Value} {cs : Array Value} {r : List UInt8} (h1 : w.heap[ge]? = some (.cells cs 100 (0, 0))) {b0 : List UInt8} (h2 : EncCs wv b0 cs) (hr : r.length < 4) (z : Int) (hz : z = (r.length : Int)) :
    EncB ((w.setRow ge (cs.toList.take 2 ++ r.map bv ++ cs.toList.drop (2 + r.length)).toArray).setCell ⟨ge, 6, none⟩ (.int .i64 z)) ge wv r := by
  subst hz
  have sz := h2.size
  have hl : cs.toList.length = 1031 := by rw [Array.length_toList]; exact sz
  have hl2 : (cs.toList.take 2).length = 2 := by rw [List.length_take]; omega
  have key : ∀ i, (cs.toList.take 2 ++ r.map bv ++ cs.toList.drop (2 + r.length)).toArray[i]? = if i < 2 then cs[i]? else if i < 2 + r.length then (r.map bv)[i - 2]? else cs[i]? := by
    intro i
    rw [List.getElem?_toArray, List.append_assoc]
    by_cases hi : i < 2
    · rw [if_pos hi, List.getElem?_append_left (by omega), List.getElem?_take, if_pos hi, Array.getElem?_toList]
    · rw [if_neg hi, List.getElem?_append_right (by omega), hl2]
      by_cases hj : i < 2 + r.length
      · rw [if_pos hj, List.getElem?_append_left (by rw [List.length_map]; omega)]
      · rw [if_neg hj, List.getElem?_append_right (by rw [List.length_map]; omega), List.length_map, List.getElem?_drop, Array.getElem?_toList]
        congr 1
        omega
  refine ⟨_, heap_set_same _ ge 6 _ _ _ (setRow_heap w ge cs _ _ _ h1), ?_⟩
  have sz2 : (cs.toList.take 2 ++ r.map bv ++ cs.toList.drop (2 + r.length)).toArray.size = 1031 := by
    rw [List.size_toArray, List.length_append, List.length_append, hl2, List.length_map, List.length_drop, hl]
    omega
  refine ⟨by rw [Array.size_setIfInBounds, sz2], ?_, ?_, ?_, fun i x hx => ?_, by omega, fun i hi => ?_, fun i hi => ?_⟩
  · rw [Array.getElem?_setIfInBounds, if_neg (by omega), key, if_pos (by omega)]; exact h2.err
  · rw [Array.getElem?_setIfInBounds, if_neg (by omega), key, if_pos (by omega)]; exact h2.wr
  · rw [Array.getElem?_setIfInBounds, if_pos rfl, if_pos (by omega)]
  · have hi := (List.getElem?_eq_some_iff.1 hx).1
    rw [Array.getElem?_setIfInBounds, if_neg (by omega), key, if_neg (by omega), if_pos (by omega)]
    rw [show 2 + i - 2 = i by omega, List.getElem?_map, hx]
    rfl
  · rw [Array.getElem?_setIfInBounds, if_neg (by omega), key, if_neg (by omega)]
    split
    · rw [show 2 + i - 2 = i by omega, List.getElem?_map, List.getElem?_eq_getElem (by omega)]
      exact ⟨_, rfl⟩
    · exact h2.b4 i hi
  · rw [Array.getElem?_setIfInBounds, if_neg (by omega), key, if_neg (by omega), if_neg (by omega)]; exact h2.out i hi

end Go.Proofs.YtemojkjcnkbpoaaGreat


/-
  encoding/ascii85's encoder: Close. Condition: it is an encoder that has met no error, over a writer that takes all.
-/
import Derived.Test.YtmddbfcghddacaaEncB
import Derived.Test.YtmddbfcghddacaaEnc
import Derived.Deep.RegionWith
import Derived.Deep.RegionHeld3
import Derived.Deep.DeepCutAuto
import Derived.Outline
namespace Go.Proofs.Ytmddbfcghddacaa
open Go.RowKit
set_option linter.unusedVariables false

/-- Encode into the encoder's own room -/
theorem enc_text (ge : Nat) (wv : Value) (buf : List UInt8) (A : Option Addr) (m c : Nat) (bs : List UInt8) (w : World) (hE : EncB w ge wv buf) (hm : m = bs.length) (hmc : m ≤ c) (hc : c ≤ 9223372036854775807)
    (hsrc : bs = [] ∨ ∃ b s, A = some ⟨b, s, none⟩ ∧ (b ≠ ge ∨ s + bs.length ≤ 7) ∧ ∀ i x, bs[i]? = some x → w.cell? ⟨b, s + i, none⟩ = some (.int .u8 (x.toNat : Int))) (hroom : (bs.length + 3) / 4 * 5 ≤ 1024) :
    Calls Try.prog 15 #[.slice (some ⟨ge, 7, none⟩) 1024 1024, .slice A m c] w fun e w' => e = .returned (.int .i64 ((Asc.enc bs).length : Int)) ∧ EncB w' ge wv buf ∧
      (∀ i x, (Asc.enc bs)[i]? = some x → w'.cell? ⟨ge, 7 + i, none⟩ = some (.int .u8 (x.toNat : Int))) ∧ Fr (fun k => k = ge) w w' ∧ w'.heap.size = w.heap.size := by
  obtain ⟨cs, h1, h2⟩ := hE
  refine (encode_any ge 7 1024 1024 A m c bs cs 56 w h1 (fun i hi => h2.out i hi) (Nat.le_refl _) (by omega) hm hmc hc ?_ hroom).mono ?_
  · rcases hsrc with h | ⟨b, s, e, hd, hc⟩
    · exact .inl h
    · exact .inr ⟨b, s, e, hd.imp id (fun h => .inl h), hc⟩
  · rintro e w' ⟨rfl, cr, rfl, hu, hcr⟩
    refine ⟨rfl, EncB.text h1 h2 hu, fun i x hx => ?_, Fr.setRow (M := fun k => k = ge) (Fr.refl _ _) rfl _, by simp⟩
    rw [cell_setRow w ge _ cs cr _ _ h1]
    exact hcr i x hx

theorem Wtr.keep {P : Program} {tw : TypeId} {pw : Addr} {fW : FuncId} {St : World → (Nat → Prop) → List UInt8 → List (List UInt8) → Prop} (W : Wtr P tw pw fW St) {w w' : World} {M : Nat → Prop} {txt : List UInt8} {rows : List (List UInt8)} {ge : Nat}
    (h : St w M txt rows) (hM : ¬ M ge) (hf : Fr (fun k => k = ge) w w') : St w' M txt rows :=
  W.same w w' M txt rows h fun k hk => hf.block k (W.lt w M txt rows h k hk) (fun e => hM (e ▸ hk))

set_option maxRecDepth 100000 in
set_option maxHeartbeats 2000000 in
theorem enc_close {tw : TypeId} {pw : Addr} {fW : FuncId} {St : World → (Nat → Prop) → List UInt8 → List (List UInt8) → Prop} (W : Wtr Try.prog tw pw fW St) (ge : Nat) (buf : List UInt8) (w : World) (M : Nat → Prop) (txt : List UInt8) (rows : List (List UInt8))
    (hE : EncB w ge (.iface tw (.pointer (some pw))) buf) (hb : buf.length < 4) (hS : St w M txt rows) (hM : ¬ M ge) (hl : txt.length ≤ 10000000) :
    Calls Try.prog 41 #[.pointer (some ⟨ge, 0, none⟩)] w fun e w' => e = .returned .nilIface ∧ ∃ M', EncB w' ge (.iface tw (.pointer (some pw))) [] ∧ St w' M' (txt ++ Asc.enc buf) rows ∧ Fr (fun k => M k ∨ k = ge) w w' ∧ ∀ k, k < w.heap.size → M' k → M k := by
  by_cases h0 : buf = []
  · subst h0
    obtain ⟨c0, c1, c6, -, -, fz⟩ := hE.cells
    have HE := Lib.hid hE
    clear hE
    go_enter Try.func41, Try.ntmps41
    go_wp2
    go_ret
    exact ⟨rfl, M, HE.out, by rw [Asc.enc_nil, List.append_nil]; exact hS, Fr.refl _ _, fun _ _ h => h⟩
  · have hpos : 0 < buf.length := List.length_pos_iff.2 h0
    have hel := Asc.enc_len buf
    have hep := Asc.enc_pos hpos
    have hge := hE.lt
    obtain ⟨c0, c1, c6, cb, -, fz⟩ := hE.cells
    obtain ⟨m, hm⟩ : ∃ m, m = buf.length := ⟨_, rfl⟩
    obtain ⟨L, hL⟩ : ∃ L, L = (Asc.enc buf).length := ⟨_, rfl⟩
    have C1 : Hid (Calls Try.prog 15 #[.slice (some ⟨ge, 7, none⟩) 1024 1024, .slice (some ⟨ge, 2, none⟩) m 4] w.drew fun e w' => e = .returned (.int .i64 (L : Int)) ∧ Hid (EncB w' ge (.iface tw (.pointer (some pw))) buf ∧
      (∀ i x, (Asc.enc buf)[i]? = some x → w'.cell? ⟨ge, 7 + i, none⟩ = some (.int .u8 (x.toNat : Int))) ∧ Fr (fun k => k = ge) w w' ∧ w'.heap.size = w.heap.size)) := by
      rw [hL]
      exact (enc_text ge _ buf (some ⟨ge, 2, none⟩) m 4 buf w.drew hE hm (by omega) (by omega) (.inr ⟨ge, 2, rfl, .inr (by omega), cb⟩) (by omega)).mono fun e w' ⟨e1, e2, e3, e4, e5⟩ => ⟨e1, e2, e3, e4.undrew, e5⟩
    rw [← hm] at c6 hpos hb hel
    rw [← hL] at hep hel
    have HM := Lib.hid hm
    have HL := Lib.hid hL
    have HE := Lib.hid hE
    clear hE hm hL h0 cb
    have n1 := W.nil
    have n2 := W.met
    have n3 := W.ent
    have t1 : (1 : Int) ≤ (m : Int) := by omega
    have t2 : (m : Int) ≤ 4 := by omega
    have t3 : (0 : Int) ≤ (L : Int) := by omega
    have t4 : (L : Int) ≤ 1024 := by omega
    go_enter Try.func41, Try.ntmps41
    go_wp2
    go_region_with (go_at_call 15; refine C1.out.mono ?_; rintro e w2 ⟨rfl, h2⟩)
    obtain ⟨k1, k2, k3, k4⟩ := h2.out
    obtain ⟨d0, d1, d6, -, -, fy⟩ := k1.cells
    have q1 := k1.clr
    have K1 := Lib.hid k1
    clear c0 c1 c6 fz h2 k1 C1
    go_wp2_with fail
    obtain ⟨V, hV⟩ : ∃ V, w2.setCell ⟨ge, 6, none⟩ (.int .i64 0) = V := ⟨_, rfl⟩
    have fV : Fr (fun k => k = ge) w V := by subst hV; exact k3.setCell (p := ⟨ge, 6, none⟩) rfl _
    have cV : ∀ i x, (Asc.enc buf)[i]? = some x → V.cell? ⟨ge, 7 + i, none⟩ = some (.int .u8 (x.toNat : Int)) := by
      intro i x hx
      rw [← hV, World.cell?_setCell_other _ _ _ _ (by intro e; injection e with _ e; omega)]
      exact k2 i x hx
    rw [hV] at q1 ⊢
    have sV : V.heap.size = w.heap.size := by subst hV; simp [World.setCell, k4]
    have SV := W.keep hS hM fV
    obtain ⟨x0, x1, -, -, -, fx⟩ := q1.cells
    have C2 : Hid (Calls Try.prog fW #[.pointer (some pw), .slice (some ⟨ge, 7, none⟩) L 1024] V.drew fun e w' => e = .returned (.tuple #[.int .i64 (L : Int), .nilIface]) ∧ w'.cell? ⟨ge, 0, none⟩ = some .nilIface ∧ w'.cell? ⟨ge, 1, none⟩ = some (.iface tw (.pointer (some pw))) ∧ w'.frozen? ⟨ge, 0, none⟩ = false ∧ Hid (EncB w' ge (.iface tw (.pointer (some pw))) [] ∧
        ∃ M', St w' M' (txt ++ Asc.enc buf) rows ∧ Fr M V w' ∧ ∀ k, k < V.heap.size → M' k → M k)) := by
      refine (W.put V.drew M txt rows ge 7 L 1024 (Asc.enc buf) (W.same V V.drew M txt rows SV (fun _ _ => rfl)) hM (by show ge < V.heap.size; omega) HL.out hep (by omega) (by omega) cV (by omega)).mono ?_
      rintro e w' ⟨e1, M', e2, e3, e4⟩
      have e3' := e3.undrew
      have hB : EncB w' ge (.iface tw (.pointer (some pw))) [] := q1.keep (e3'.block ge (by omega) hM)
      obtain ⟨y0, y1, -, -, -, fy⟩ := hB.cells
      exact ⟨e1, y0, y1, fy 0, hB, M', e2, e3', e4⟩
    have FV := Lib.hid fV
    have Q1 := Lib.hid q1
    clear hV q1 cV k2 k3 k4 d0 d1 d6 fy K1 fV
    go_wp2_with fail
    go_region_held3 (fun w' => w'.cell? ⟨ge, 1, none⟩ = some (.iface tw (.pointer (some pw)))) (first | go_keep | (exact cell_off _ _ _ _ _ _ (by decide) (by assumption))) (((with_reducible refine C2.out.mono ?_); rintro e w3 ⟨rfl, y0, y1, fy, h3⟩))
    go_wp2_with fail
    go_ret
    obtain ⟨b1, M', b2, b3, b4⟩ := h3.out
    have hM' : ¬ M' ge := fun h => hM (b4 ge (by omega) h)
    refine ⟨rfl, M', b1.err, W.keep b2 hM' (Fr.setCell (M := fun k => k = ge) (Fr.refl _ _) (p := ⟨ge, 0, none⟩) rfl _), ?_, fun k hk h => b4 k (by omega) h⟩
    refine Fr.setCell (M := fun k => M k ∨ k = ge) ?_ (p := ⟨ge, 0, none⟩) (.inr rfl) _
    exact (FV.out.mono (fun i _ h => .inr h)).trans b3 (fun i _ h => .inl h)

end Go.Proofs.Ytmddbfcghddacaa

/-
  encoding/ascii85's encoder: Write. Condition: it is an encoder that has met no error, over a writer that takes all; the lengths' bounds.
-/
import Derived.Test.YtemojkjcnkbpoaaGreatEncZ
import Derived.RegionTactic
namespace Go.Proofs.YtemojkjcnkbpoaaGreat
open Go.RowKit
set_option linter.unusedVariables false

theorem cell_far (w : World) (g i b o : Nat) (u v : Value) (h : b ≠ g) (hv : w.cell? ⟨b, o, none⟩ = some v) : (w.setCell ⟨g, i, none⟩ u).cell? ⟨b, o, none⟩ = some v := by
  rw [World.cell?_setCell_other w ⟨g, i, none⟩ ⟨b, o, none⟩ u (fun e => by injection e with e _ _; exact h e.symm)]; exact hv

theorem two_keep (w : World) (g i b o j : Nat) (u v v' : Value) (h : b ≠ g) (hj : i ≠ j) (h1 : w.cell? ⟨g, j, none⟩ = some v) (h2 : w.cell? ⟨b, o, none⟩ = some v') :
    (w.setCell ⟨g, i, none⟩ u).drew.cell? ⟨g, j, none⟩ = some v ∧ (w.setCell ⟨g, i, none⟩ u).drew.cell? ⟨b, o, none⟩ = some v' := ⟨cell_off _ _ _ _ _ _ hj h1, cell_far _ _ _ _ _ _ _ h h2⟩

/-- Encode and Write, at the encoder's own room: what they leave -/
structure Put (w w' : World) (M : Nat → Prop) (ge : Nat) (wv : Value) (buf : List UInt8) (St : World → (Nat → Prop) → List UInt8 → List (List UInt8) → Prop) (txt : List UInt8) (rows : List (List UInt8)) : Prop where
  enc : EncB w' ge wv buf
  st : ∃ M', St w' M' txt rows ∧ Fr (fun k => M k ∨ k = ge) w w' ∧ ∀ k, k < w.heap.size → M' k → M k

theorem enc_put {tw : TypeId} {pw : Addr} {fW : FuncId} {St : World → (Nat → Prop) → List UInt8 → List (List UInt8) → Prop} (W : Wtr Tryz.prog tw pw fW St) (ge : Nat) (buf : List UInt8) (w V : World) (M : Nat → Prop) (txt T : List UInt8) (rows : List (List UInt8)) (L : Nat)
    (hE : EncB V ge (.iface tw (.pointer (some pw))) buf) (hS : St w M txt rows) (hM : ¬ M ge) (hV : Fr (fun k => k = ge) w V) (hL : L = T.length) (h0 : 0 < L) (h1 : L ≤ 1024) (hc : ∀ i x, T[i]? = some x → V.cell? ⟨ge, 7 + i, none⟩ = some (.int .u8 (x.toNat : Int))) (hl : txt.length + L ≤ 20000000) (hge : ge < w.heap.size) :
    Calls Tryz.prog fW #[.pointer (some pw), .slice (some ⟨ge, 7, none⟩) L 1024] V.drew fun e w' => e = .returned (.tuple #[.int .i64 (L : Int), .nilIface]) ∧ w'.cell? ⟨ge, 0, none⟩ = some .nilIface ∧ w'.cell? ⟨ge, 1, none⟩ = some (.iface tw (.pointer (some pw))) ∧ w'.frozen? ⟨ge, 0, none⟩ = false ∧
      Hid (Put w w' M ge (.iface tw (.pointer (some pw))) buf St (txt ++ T) rows) := by
  have SV := W.keep hS hM hV
  have hgV : ge < V.heap.size := Nat.lt_of_lt_of_le hge hV.size
  refine (W.put V.drew M txt rows ge 7 L 1024 T (W.same V V.drew M txt rows SV (fun _ _ => rfl)) hM hgV (by obtain ⟨cs, h1, _⟩ := hE; exact ⟨cs, _, h1⟩) hL h0 (by omega) (by omega) hc hl).mono ?_
  rintro e w' ⟨e1, M', e2, e3, e4⟩
  have e3' := e3.undrew
  have hB : EncB w' ge (.iface tw (.pointer (some pw))) buf := hE.keep (e3'.block ge hgV hM)
  obtain ⟨y0, y1, -, -, -, fy⟩ := hB.cells
  exact ⟨e1, y0, y1, fy 0, hB, M', e2, (hV.mono (fun i _ h => .inr h)).trans e3' (fun i _ h => .inl h), fun k hk h => e4 k (Nat.lt_of_lt_of_le hk hV.size) h⟩

theorem Put.err {w w' : World} {M : Nat → Prop} {ge : Nat} {wv : Value} {buf : List UInt8} {tw : TypeId} {pw : Addr} {fW : FuncId} {P : Program} {St : World → (Nat → Prop) → List UInt8 → List (List UInt8) → Prop} {txt : List UInt8} {rows : List (List UInt8)} (W : Wtr P tw pw fW St)
    (h : Put w w' M ge wv buf St txt rows) (hM : ¬ M ge) (hge : ge < w.heap.size) : Put w (w'.setCell ⟨ge, 0, none⟩ .nilIface) M ge wv buf St txt rows := by
  obtain ⟨h1, M', h2, h3, h4⟩ := h
  have hM' : ¬ M' ge := fun h => hM (h4 ge hge h)
  exact ⟨h1.err, M', W.keep h2 hM' (Fr.setCell (M := fun k => k = ge) (Fr.refl _ _) (p := ⟨ge, 0, none⟩) rfl _), Fr.setCell (M := fun k => M k ∨ k = ge) h3 (p := ⟨ge, 0, none⟩) (.inr rfl) _, h4⟩
theorem Put.clr {w w' : World} {M : Nat → Prop} {ge : Nat} {wv : Value} {buf : List UInt8} {tw : TypeId} {pw : Addr} {fW : FuncId} {P : Program} {St : World → (Nat → Prop) → List UInt8 → List (List UInt8) → Prop} {txt : List UInt8} {rows : List (List UInt8)} (W : Wtr P tw pw fW St)
    (h : Put w w' M ge wv buf St txt rows) (hM : ¬ M ge) (hge : ge < w.heap.size) : Put w (w'.setCell ⟨ge, 6, none⟩ (.int .i64 0)) M ge wv [] St txt rows := by
  obtain ⟨h1, M', h2, h3, h4⟩ := h
  have hM' : ¬ M' ge := fun h => hM (h4 ge hge h)
  exact ⟨h1.clr, M', W.keep h2 hM' (Fr.setCell (M := fun k => k = ge) (Fr.refl _ _) (p := ⟨ge, 6, none⟩) rfl _), Fr.setCell (M := fun k => M k ∨ k = ge) h3 (p := ⟨ge, 6, none⟩) (.inr rfl) _, h4⟩

/-- what holds between the pieces of Write: the bytes p' are left, T has been written -/
structure Mid (w wr : World) (M : Nat → Prop) (ge : Nat) (wv : Value) (St : World → (Nat → Prop) → List UInt8 → List (List UInt8) → Prop) (txt all : List UInt8) (rows : List (List UInt8)) (A' : Option Addr) (n n' : Nat) (p' : List UInt8) : Prop where
  enc : EncB wr ge wv []
  st : ∃ M' T, St wr M' (txt ++ T) rows ∧ Fr (fun k => M k ∨ k = ge) w wr ∧ (∀ k, k < w.heap.size → M' k → M k) ∧ RdN wr M' ge A' p' ∧ encG all = T ++ encG p' ∧ T.length ≤ 2 * (n - n') + 5
  len : n' = p'.length
  drop : dropG all = dropG p'

set_option maxRecDepth 100000 in
set_option maxHeartbeats 8000000 in
theorem enc_write {tw : TypeId} {pw : Addr} {fW : FuncId} {St : World → (Nat → Prop) → List UInt8 → List (List UInt8) → Prop} (W : Wtr Tryz.prog tw pw fW St) (ge : Nat) (A : Option Addr) (n c : Nat) (p buf : List UInt8) (w : World) (M : Nat → Prop) (txt : List UInt8) (rows : List (List UInt8))
    (hE : EncB w ge (.iface tw (.pointer (some pw))) buf) (hb : buf.length < 4) (hS : St w M txt rows) (hM : ¬ M ge) (hn : n = p.length) (hr : RdN w M ge A p) (hnc : n ≤ c) (hc : c ≤ 9223372036854775807) (hl : txt.length ≤ 10000000) (hnl : n ≤ 2000000) :
    Calls Tryz.prog 158 #[.pointer (some ⟨ge, 0, none⟩), .slice A n c] w fun e w' => e = .returned (.tuple #[.int .i64 (n : Int), .nilIface]) ∧ Put w w' M ge (.iface tw (.pointer (some pw))) (dropG (buf ++ p)) St (txt ++ encG (buf ++ p)) rows := by
  have hge := hE.lt
  obtain ⟨c0, c1, c6, cb, -, fz⟩ := hE.cells
  obtain ⟨m, hm⟩ : ∃ m, m = buf.length := ⟨_, rfl⟩
  rw [← hm] at hb c6
  have HM := Lib.hid hm
  have HN := Lib.hid hn
  have HE := Lib.hid hE
  have HR := Lib.hid hr
  have n1 := W.nil
  have n2 := W.met
  have n3 := W.ent
  clear hm hn hE cb hr
  obtain ⟨wv, ewv⟩ : ∃ wv, wv = Value.iface tw (.pointer (some pw)) := ⟨_, rfl⟩
  have WV := Lib.hid ewv
  clear ewv
  go_enter Tryz.func158, Tryz.ntmps158
  go_upto_if 23 with (fail)
  go_cut [1, 4, 5] (fun pv nv ev wc => ∃ (A' : Option Addr) (n' c' : Nat) (p' : List UInt8), ev = .nilIface ∧ pv = .slice A' n' c' ∧ nv = .int .i64 ((n - n' : Nat) : Int) ∧ n' ≤ n ∧ n' ≤ c' ∧ c' ≤ c ∧ Hid (Mid w wc M ge wv St txt (buf ++ p) rows A' n n' p'))
  case first =>
    by_cases h0 : m = 0
    · subst h0
      go_wp2
      go_meet
      have e : buf = [] := List.eq_nil_of_length_eq_zero HM.out.symm
      refine ⟨A, n, c, p, rfl, rfl, by simp, Nat.le_refl _, hnc, Nat.le_refl _, ?_, ⟨M, [], ?_, Fr.refl _ _, fun _ _ h => h, HR.out, ?_, by simp⟩, HN.out, ?_⟩
      · rw [WV.out]; have := HE.out; rw [e] at this; exact this
      · rw [List.append_nil]; exact hS
      · rw [e]; rfl
      · rw [e]; rfl
    · have hpos : 0 < m := by omega
      have tp : (0 : Int) < (m : Int) := by omega
      go_wp2
      go_loopg [6] (4 - m) (fun gk iv wr => ∃ i : Nat, i + gk = 4 - m ∧ i ≤ n ∧ iv = .int .i64 (i : Int) ∧ Hid (EncB wr ge wv (buf ++ p.take i)) ∧ Hid (Fr (fun k => k = ge) w wr))
      case atStart => exact ⟨0, by omega, by omega, rfl, by rw [WV.out]; simpa using HE, Fr.refl _ _⟩
      case round =>
        obtain ⟨i, hi, hin, rfl, hB, hF⟩ := hrel
        have HI := Lib.hid hi
        obtain ⟨j, hj⟩ : ∃ j, j = m + i := ⟨_, rfl⟩
        have hj4 : j ≤ 4 := by omega
        have HJ := Lib.hid hj
        have hlen : (buf ++ p.take i).length = j := by rw [List.length_append, List.length_take]; have := HM.out; have := HN.out; omega
        obtain ⟨d0, d1, d6, -, -, fy⟩ := hB.out.cells
        rw [hlen] at d6
        clear hi hj c0 c1 c6 fz
        by_cases hgo : i < n ∧ j < 4
        · obtain ⟨hin', hj'⟩ := hgo
          obtain ⟨b, o, x, rfl, hb1, hb2, hb3, hx, hcx⟩ := HR.out.at (k := i) (by have := HN.out; omega)
          have hcx' : wr.cell? ⟨b, o + i, none⟩ = some (.int .u8 (x.toNat : Int)) := (World.cell?_of_block (a := ⟨b, o + i, none⟩) (hF.out.block b hb1 hb3)).trans hcx
          have u1 : (0 : Int) ≤ (j : Int) := by omega
          have u2 : (j : Int) < 4 := by omega
          have u3 : (0 : Int) ≤ (i : Int) := by omega
          have u4 : (i : Int) < (n : Int) := by omega
          have hx2 : buf ++ p.take (i + 1) = buf ++ p.take i ++ [x] := by rw [List.take_add_one, hx, List.append_assoc]; rfl
          have hcur : wr.cell? ⟨ge, 2 + j, none⟩ ≠ none := by
            obtain ⟨-, -, -, -, z, -⟩ := hB.out.cells
            obtain ⟨z, hz⟩ := z j hj'
            rw [hz]; simp
          obtain ⟨z0, hz0⟩ : ∃ z, wr.cell? ⟨ge, 2 + j, none⟩ = some z := Option.ne_none_iff_exists'.1 hcur
          have HX2 := Lib.hid hx2
          have HLEN := Lib.hid hlen
          clear hx hcx hx2 hcur hlen
          go_wp2
          go_region
          go_wp2_with fail
          go_roundg (gk - 1)
          case measure => have := HI.out; have := HJ.out; omega
          case rel =>
            refine ⟨i + 1, by have := HI.out; have := HJ.out; omega, by omega, by go_num, ?_, ?_⟩
            · rw [HX2.out]
              exact EncB.keep (hB.out.put (by rw [HLEN.out]; exact hj') x (2 + j) (by rw [HLEN.out]) ((j : Int) + 1) (by rw [HLEN.out])) rfl
            · have f1 := (hF.out.setCell (p := ⟨ge, 2 + j, none⟩) rfl (.int .u8 (x.toNat : Int))).setCell (p := ⟨ge, 6, none⟩) rfl (.int .i64 ((j : Int) + 1))
              exact ⟨f1.os, f1.tape, f1.output, f1.size, f1.block⟩
        · have HLEN := Lib.hid hlen
          obtain ⟨A3, hA3, hs3⟩ := slice_lo A n c i hin hnc
          have HA3 := Lib.hid hA3
          clear hlen hA3
          by_cases hj' : j < 4
          · have hin' : n = i := by omega
            have u2 : (j : Int) < 4 := by omega
            subst hin'
            clear hgo
            go_wp2
            go_ret2
            have hs := encG_short (buf ++ p) (by rw [List.length_append]; have := HM.out; have := HN.out; have := HJ.out; omega)
            refine ⟨by simp, ?_, M, ?_, ?_, fun _ _ h => h⟩
            · rw [hs.2, ← WV.out]
              have := hB.out
              rw [List.take_of_length_le (by have := HN.out; omega)] at this
              exact this
            · rw [hs.1, List.append_nil]; exact W.keep hS hM hF.out
            · exact hF.out.mono (fun i _ h => .inr h)
          · have u2 : ¬ (j : Int) < 4 := by omega
            obtain rfl : j = 4 := by omega
            clear hgo hj'
            have hel := Asc.enc_len (buf ++ p.take i)
            have hep := Asc.enc_pos (x := buf ++ p.take i) (by have := HLEN.out; omega)
            rw [HLEN.out] at hel
            obtain ⟨L, hL⟩ : ∃ L, L = (Asc.enc (buf ++ p.take i)).length := ⟨_, rfl⟩
            have C1 : Hid (Calls Tryz.prog 22 #[.slice (some ⟨ge, 7, none⟩) 1024 1024, .slice (some ⟨ge, 2, none⟩) 4 4] wr.drew fun e w' => e = .returned (.int .i64 (L : Int)) ∧ Hid (EncB w' ge wv (buf ++ p.take i) ∧
                (∀ i' x, (Asc.enc (buf ++ p.take i))[i']? = some x → w'.cell? ⟨ge, 7 + i', none⟩ = some (.int .u8 (x.toNat : Int))) ∧ Fr (fun k => k = ge) wr w' ∧ w'.heap.size = wr.heap.size)) := by
              rw [hL]
              obtain ⟨-, -, -, cb, -, -⟩ := hB.out.cells
              exact (enc_text ge _ _ (some ⟨ge, 2, none⟩) 4 4 (buf ++ p.take i) wr.drew hB.out HLEN.out.symm (by omega) (by omega) (.inr ⟨ge, 2, rfl, .inr (by have := HLEN.out; omega), cb⟩) (by have := HLEN.out; omega)).mono fun e w' ⟨e1, e2, e3, e4, e5⟩ => ⟨e1, e2, e3, e4.undrew, e5⟩
            rw [← hL] at hep hel
            have HL := Lib.hid hL
            have t3 : (0 : Int) ≤ (L : Int) := by omega
            have t4 : (L : Int) ≤ 1024 := by omega
            have hL1 : L ≤ 1024 := by omega
            have hi4 : m + i = 4 := HJ.out.symm
            have HI4 := Lib.hid hi4
            clear hL hel hi4
            go_wp2
            all_goals
              go_region_with (go_at_call 22; refine C1.out.mono ?_; rintro e w2 ⟨rfl, h2⟩)
              obtain ⟨k1, k2, k3, k4⟩ := h2.out
              obtain ⟨x0, x1, -, -, -, fx⟩ := k1.cells
              rw [WV.out] at k1 x1
              have C2 := Lib.hid (enc_put W ge (buf ++ p.take i) w w2 M txt (Asc.enc (buf ++ p.take i)) rows L k1 hS hM (hF.out.trans k3 (fun _ _ h => h)) HL.out hep hL1 k2 (by omega) hge)
              have K1 := Lib.hid k1
              clear h2 k1 k2 k3 k4 C1 d0 d1 d6 fy
              go_wp2_with fail
              go_region_held3 (fun w' => w'.cell? ⟨ge, 1, none⟩ = some (.iface tw (.pointer (some pw)))) (first | go_keep | (exact cell_off _ _ _ _ _ _ (by decide) (by assumption))) (((with_reducible refine C2.out.mono ?_); rintro e w3 ⟨rfl, y0, y1, fy, h3⟩))
              have q3 := h3.out.err W hM hge
              obtain ⟨r0, r1, r6, -, -, fr⟩ := q3.enc.cells
              obtain ⟨V, hV⟩ : ∃ V, w3.setCell ⟨ge, 0, none⟩ .nilIface = V := ⟨_, rfl⟩
              rw [hV] at q3 r0 r1 r6 fr
              go_wp2_with fail
              go_meet
              have q4 := q3.clr W hM hge
              obtain ⟨v1, M', v2, v3, v4⟩ := q4
              have hG := encG_first buf p i (by have := HM.out; have := HI4.out; omega) (by have := HN.out; omega)
              have hLL : (Asc.enc (buf ++ p.take i)).length ≤ 5 := by have := Asc.enc_len (buf ++ p.take i); rw [HLEN.out] at this; omega
              refine ⟨A3, n - i, c - i, p.drop i, rfl, rfl, by go_num, by omega, by omega, by omega, ?_, ⟨M', Asc.enc (buf ++ p.take i), v2, v3, v4, ?_, hG.1, by omega⟩, ?_, hG.2⟩
              · rw [WV.out]; exact v1
              · exact (HR.out.keep v3 v4).cut (fun b off e h => HA3.out b off e (by have := HN.out; omega))
              · rw [List.length_drop]; have := HN.out; omega
  case rest =>
    obtain ⟨A', n', c', p', rfl, rfl, rfl, hn'n, hn'c, hc'c, hmid⟩ := hcut
    clear c0 c1 c6 fz
    go_wp2
    go_loopg [1, 4, 5] n' (fun gk pv nv ev wr => ∃ (A2 : Option Addr) (n2 c2 : Nat) (p2 : List UInt8), ev = .nilIface ∧ gk = n2 ∧ pv = .slice A2 n2 c2 ∧ nv = .int .i64 ((n - n2 : Nat) : Int) ∧ n2 ≤ n ∧ n2 ≤ c2 ∧ c2 ≤ c ∧ Hid (Mid w wr M ge wv St txt (buf ++ p) rows A2 n n2 p2))
    case atStart => exact ⟨A', n', c', p', rfl, rfl, rfl, rfl, hn'n, hn'c, hc'c, hmid⟩
    case round =>
      clear hmid
      obtain ⟨A2, n2, c2, p2, rfl, rfl, rfl, rfl, h2n, h2c, hc2, hmid⟩ := hrel
      by_cases h4 : 4 ≤ gk
      · have t1 : (4 : Int) ≤ (gk : Int) := by omega
        obtain ⟨k0, hk0⟩ : ∃ k0, k0 = min 816 gk := ⟨_, rfl⟩
        obtain ⟨k, hk⟩ : ∃ k, k = k0 - k0 % 4 := ⟨_, rfl⟩
        have hk4 : 4 ≤ k := by omega
        have hkg : k ≤ gk := by omega
        have hk8 : k ≤ 816 := by omega
        have hkm : k % 4 = 0 := by omega
        have o1 : (k0 : Int) - (k0 : Int) % 4 = (k : Int) := by omega
        have HK0 := Lib.hid hk0
        obtain ⟨r0, r1, r6, -, -, fr⟩ := hmid.out.enc.cells
        obtain ⟨M', T, v2, v3, v4, v5, v6, v7⟩ := hmid.out.st
        have hlen := hmid.out.len
        have hME := fun h => hM (v4 ge hge h)
        have hgr : ge < wr.heap.size := hmid.out.enc.lt
        obtain ⟨ct, hct⟩ : ∃ ct, ct = p2.take k := ⟨_, rfl⟩
        have hctl : k = ct.length := by rw [hct, List.length_take]; omega
        have hG := encG_cut p2 k (k / 4) (by omega) (by omega)
        rw [← hct] at hG
        have hel := Asc.enc_len ct
        have hep := Asc.enc_pos (x := ct) (by omega)
        rw [← hctl] at hel
        obtain ⟨L, hL⟩ : ∃ L, L = (Asc.enc ct).length := ⟨_, rfl⟩
        have hsrc : ∃ b s, A2 = some ⟨b, s, none⟩ ∧ (b ≠ ge ∨ s + ct.length ≤ 7) ∧ ∀ i x, ct[i]? = some x → wr.cell? ⟨b, s + i, none⟩ = some (.int .u8 (x.toNat : Int)) := by
          rcases v5 with e | ⟨b, s, e, _, _, h3, h4⟩
          · rw [e] at hlen; simp at hlen; omega
          · refine ⟨b, s, e, .inl h3, fun i x hx => h4 i x ?_⟩
            rw [hct, List.getElem?_take] at hx
            split at hx
            · exact hx
            · cases hx
        have C1 : Hid (Calls Tryz.prog 22 #[.slice (some ⟨ge, 7, none⟩) 1024 1024, .slice A2 k c2] wr.drew fun e w' => e = .returned (.int .i64 (L : Int)) ∧ Hid (EncB w' ge wv [] ∧
            (∀ i' x, (Asc.enc ct)[i']? = some x → w'.cell? ⟨ge, 7 + i', none⟩ = some (.int .u8 (x.toNat : Int))) ∧ Fr (fun k => k = ge) wr w' ∧ w'.heap.size = wr.heap.size)) := by
          rw [hL]
          exact (enc_text ge _ [] A2 k c2 ct wr.drew hmid.out.enc hctl (by omega) (by omega) (.inr hsrc) (by omega)).mono fun e w' ⟨e1, e2, e3, e4, e5⟩ => ⟨e1, e2, e3, e4.undrew, e5⟩
        rw [← hL] at hep hel
        have HL := Lib.hid hL
        have t3 : (0 : Int) ≤ (L : Int) := by omega
        have t4 : (L : Int) ≤ 1024 := by omega
        have hL1 : L ≤ 1024 := by omega
        have hL2 : L ≤ 2 * k := by omega
        have hs0 := fun W => slice_0hi A2 gk c2 k (by omega) W
        obtain ⟨A3, hA3, hs3⟩ := slice_lo A2 gk c2 k hkg h2c
        have HA3 := Lib.hid hA3
        have HV6 := Lib.hid v6
        have HG := Lib.hid hG
        have HLN := Lib.hid hlen
        have HDR := Lib.hid hmid.out.drop
        have tl : txt.length + T.length + L ≤ 20000000 := by omega
        clear hL hel hk0 hk hct hctl hG hlen hsrc hA3 v6
        go_upto_if 113 with (fail)
        go_cut [8] from 107 to 163 (fun x wc => x = .int .i64 (k0 : Int) ∧ wc = wr)
        case first =>
          have hk0 := HK0.out
          clear HK0 o1
          go_wp2_with fail
          all_goals go_meet
          all_goals (refine ⟨?_, rfl⟩; congr 1; omega)
        case rest =>
          obtain ⟨rfl, rfl⟩ := hcut
          have t5 : (0 : Int) < (k : Int) := by omega
          go_wp2
          go_region_with (go_at_call 22; refine C1.out.mono ?_; rintro e w2 ⟨rfl, h2⟩)
          obtain ⟨k1, k2, k3, k4⟩ := h2.out
          obtain ⟨x0, x1, -, -, -, fx⟩ := k1.cells
          rw [WV.out] at k1 x1
          have C2 := Lib.hid (enc_put W ge [] wc w2 M' (txt ++ T) (Asc.enc ct) rows L k1 v2 hME k3 HL.out hep hL1 k2 (by rw [List.length_append]; omega) hgr)
          have K1 := Lib.hid k1
          clear h2 k1 k2 k3 k4 C1 r0 r1 r6 fr
          go_wp2_with fail
          go_region_held3 (fun w' => w'.cell? ⟨ge, 1, none⟩ = some (.iface tw (.pointer (some pw)))) (first | go_keep | (exact cell_off _ _ _ _ _ _ (by decide) (by assumption))) (((with_reducible refine C2.out.mono ?_); rintro e w3 ⟨rfl, y0, y1, fy, h3⟩))
          have q3 := h3.out.err W hME hgr
          obtain ⟨r0, r1, r6, -, -, fr⟩ := q3.enc.cells
          obtain ⟨V, hV⟩ : ∃ V, w3.setCell ⟨ge, 0, none⟩ .nilIface = V := ⟨_, rfl⟩
          rw [hV] at q3 r0 r1 r6 fr
          go_wp2_with fail
          go_roundg (gk - k)
          case measure => omega
          case rel =>
            obtain ⟨a1, M2, a2, a3, a4⟩ := q3
            have hsub : ∀ i, i < w.heap.size → M2 i → M i := fun i hi h => v4 i hi (a4 i (Nat.lt_of_lt_of_le hi v3.size) h)
            refine ⟨A3, gk - k, c2 - k, p2.drop k, rfl, rfl, rfl, ?_, by omega, by omega, by omega, ?_, ⟨M2, T ++ Asc.enc ct, ?_, ?_, hsub, ?_, ?_, ?_⟩, ?_, ?_⟩
            · congr 1; omega
            · rw [WV.out]; exact a1
            · rw [← List.append_assoc]; exact a2
            · exact v3.trans a3 (fun i hi h => h.elim (fun h => .inl (v4 i hi h)) .inr)
            · exact (v5.keep a3 a4).cut (fun b off e h => HA3.out b off e (by have := HLN.out; omega))
            · rw [HV6.out, HG.out.1, List.append_assoc]
            · rw [List.length_append, ← HL.out]; omega
            · rw [List.length_drop, ← HLN.out]
            · rw [HDR.out, HG.out.2]
      · have t1 : ¬ (4 : Int) ≤ (gk : Int) := by omega
        obtain ⟨cs, hcs, hcc⟩ := hmid.out.enc
        obtain ⟨r0, r1, r6, -, -, fr⟩ := hmid.out.enc.cells
        obtain ⟨M', T, v2, v3, v4, v5, v6, v7⟩ := hmid.out.st
        have hlen := hmid.out.len
        have hss := encG_short p2 (by omega)
        have hdr := hmid.out.drop
        rw [hss.2] at hdr
        rw [hss.1, List.append_nil] at v6
        have hinfo : (Tryz.prog.info? 5).map (·.size) = some 1 := by kernel_rfl
        have hcp : (Builtin.copy_ #[22, 22] 3 #[.slice (some ⟨ge, 2, none⟩) 4 4, .slice A2 gk c2]).run Tryz.prog wr = .ok (goInt gk) (wr.setRow ge (cs.toList.take 2 ++ p2.map bv ++ cs.toList.drop (2 + p2.length)).toArray) := by
          rcases v5 with e | ⟨b, o, rfl, hb1, hb2, hb3, hcell⟩
          · have hg0 : gk = 0 := by rw [hlen, e]; rfl
            rw [hg0, e, run_copy_none wr _ _ _ _ _ _ 4 4 0 c2 Tryz.underlying22 hinfo (by simp)]
            rw [List.map_nil, List.append_nil, List.length_nil, Nat.add_zero, List.take_append_drop, Array.toArray_toList, setRow_same wr ge cs _ _ hcs]
            rfl
          · have := run_copy_row (P := Tryz.prog) wr 22 22 3 5 ge 2 4 4 ⟨b, o, none⟩ gk c2 cs 100 (p2.map bv) Tryz.underlying22 hinfo hcs (by rw [List.length_map, ← hlen]; exact (Nat.min_eq_left (by omega)).symm)
              (fun j v hj => by
                rw [addr_add]
                rw [List.getElem?_map, Option.map_eq_some_iff] at hj
                obtain ⟨x, hx, rfl⟩ := hj
                exact hcell j x hx) (by rw [List.length_map, hcc.size]; omega) (bv_one _)
            rw [List.length_map, ← hlen] at this
            rw [← hlen]
            exact this
        have q1 := encB_tail hcs hcc (r := p2) (by omega) (gk : Int) (by rw [hlen])
        obtain ⟨cr, hcr⟩ : ∃ cr, cr = (cs.toList.take 2 ++ p2.map bv ++ cs.toList.drop (2 + p2.length)).toArray := ⟨_, rfl⟩
        rw [← hcr] at hcp q1
        have HQ1 := Lib.hid q1
        have HV6 := Lib.hid v6
        have HDR := Lib.hid hdr
        have HLN := Lib.hid hlen
        have z6 : ∃ v, (wr.setRow ge cr).cell? ⟨ge, 6, none⟩ = some v := by
          have szr : cr.size = 1031 := by rw [hcr, List.size_toArray, List.length_append, List.length_append, List.length_take, List.length_map, List.length_drop, Array.length_toList, hcc.size]; omega
          rw [cell_setRow wr ge 6 cs cr _ _ hcs]
          exact ⟨_, Array.getElem?_eq_getElem (by omega)⟩
        obtain ⟨z6, hz6⟩ := z6
        have fz6 : (wr.setRow ge cr).frozen? ⟨ge, 6, none⟩ = false := frozen_setRow wr ge 6 cs cr _ hcs
        clear q1 v6 hdr hss hcr hcc hlen v5
        go_wp2
        go_ret2
        refine ⟨by rw [show (((n - gk : Nat) : Int) + (gk : Int)) = (n : Int) by omega]; rfl, ?_, M', ?_, ?_, v4⟩
        · rw [HDR.out, ← WV.out]; exact HQ1.out
        · rw [HV6.out]
          exact W.keep (W.keep v2 (fun h => hM (v4 ge hge h)) (Fr.setRow (M := fun k => k = ge) (Fr.refl _ _) rfl _)) (fun h => hM (v4 ge hge h)) (Fr.setCell (M := fun k => k = ge) (Fr.refl _ _) (p := ⟨ge, 6, none⟩) rfl _)
        · exact (v3.setRow (.inr rfl) _).setCell (p := ⟨ge, 6, none⟩) (.inr rfl) _

end Go.Proofs.YtemojkjcnkbpoaaGreat

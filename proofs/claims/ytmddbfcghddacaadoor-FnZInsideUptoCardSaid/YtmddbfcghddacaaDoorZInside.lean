/-
  FnZInside: a z behind one to four digits of a group makes the text corrupt, at its place; without these digits it does not. Condition: the lengths' bounds.
-/
import Derived.Test.YtmddbfcghddacaaDoorImpB
import Derived.Test.YtmddbfcghddacaaDoorInsertZ
import Derived.Lib.SlBytesConst
namespace Go.Proofs.YtmddbfcghddacaaDoor
open Go.RowKit
set_option linter.unusedVariables false

set_option maxRecDepth 100000 in
set_option maxHeartbeats 4000000 in
theorem zInside_walk (A0 : Option Addr) (c0 : Nat) (bs0 : List UInt8) (a1 : Int) (b2 : Bool) (w : World) (rd0 : Rd w w.heap.size A0 bs0) (lc0 : bs0.length ≤ c0) (lm0 : c0 ≤ 1048576) (h1 : -9223372036854775808 ≤ a1 ∧ a1 ≤ 9223372036854775807)
    (hlaid : w.cell? ⟨0, 0, none⟩ = some (.iface 61 (.agg #[.pointer (some ⟨1, 39, none⟩)]))) :
    Calls Tryd.prog 4 #[.slice A0 bs0.length c0, .int .i64 a1, .bool b2] w fun e w' => e = .returned (.bool true) ∧ Below w.heap.size w w' := by
  have hlt0 : 0 < w.heap.size := by
    rcases Nat.lt_or_ge 0 w.heap.size with h | h
    · exact h
    · simp [World.cell?, Array.getElem?_eq_none h] at hlaid
  obtain ⟨n, hn⟩ : ∃ n, n = bs0.length := ⟨_, rfl⟩
  rw [← hn] at lc0
  rw [← hn]
  have HN := Lib.hid hn
  have HL := Lib.hid hlaid
  clear hn hlaid
  by_cases hr0 : a1 < 1
  · have t0 : decide (a1 < 1) = true := by simp; omega
    go_enter Tryd.func4, Tryd.ntmps4
    go_wp2_with fail
    go_ret
    exact ⟨rfl, Below.refl _ _⟩
  have t0 : decide (a1 < 1) = false := by simp; omega
  by_cases hr1 : 4 < a1
  · have t1 : decide (4 < a1) = true := by simp; omega
    go_enter Tryd.func4, Tryd.ntmps4
    go_wp2_with fail
    go_ret
    exact ⟨rfl, Below.refl _ _⟩
  have t1 : decide (4 < a1) = false := by simp; omega
  obtain ⟨k, rfl⟩ : ∃ k : Nat, a1 = (k : Int) := ⟨a1.toNat, by omega⟩
  have hk1 : 1 ≤ k := by omega
  have hk4 : k ≤ 4 := by omega
  obtain ⟨q, eq⟩ : ∃ q, q = n / 4 := ⟨_, rfl⟩
  obtain ⟨k4, ek4⟩ : ∃ k4, k4 = q * 4 := ⟨_, rfl⟩
  have e1 : (n : Int) / 4 = (q : Int) := by omega
  have e2 : (q : Int) * 4 = (k4 : Int) := by omega
  have hk4n : k4 ≤ n := by omega
  obtain ⟨E, eE⟩ : ∃ E, E = Asc.enc (bs0.take k4) := ⟨_, rfl⟩
  have lE : E.length ≤ 1310725 := by rw [eE]; have := Asc.enc_len (bs0.take k4); rw [List.length_take] at this; have := HN.out; omega
  have htk : k4 = (bs0.take k4).length := by rw [List.length_take]; have := HN.out; omega
  have hg := Asc.groups_le (bs0.take k4)
  rw [← htk, ← eE] at hg
  obtain ⟨L, eL⟩ : ∃ L, L = E.length := ⟨_, rfl⟩
  have hl4 : (bs0.take k4).length = 4 * q := by rw [← htk]; omega
  obtain ⟨L1, eL1⟩ : ∃ L1, L1 = (E ++ (List.replicate k 53 ++ [122])).length := ⟨_, rfl⟩
  have hL1 : L1 = L + k + 1 := by rw [eL1, eL, List.length_append, List.length_append, List.length_replicate, List.length_singleton]; omega
  have hd1 : Asc.dec (4 * L1 + 8) b2 (E ++ (List.replicate k 53 ++ [122])).length (E ++ (List.replicate k 53 ++ [122])) 0 0 0 0 [] = ([], 0, some (L + k)) := by
    rw [eL, eE]
    refine Asc.dec_inside q _ hl4 (by rw [hL1, eL]; omega) k hk1 hk4
  obtain ⟨L2, eL2⟩ : ∃ L2, L2 = (E ++ [122]).length := ⟨_, rfl⟩
  have hL2 : L2 = L + 1 := by rw [eL2, eL, List.length_append, List.length_singleton]
  obtain ⟨o2, u2, hd2⟩ : ∃ o2 u2, Asc.dec (4 * L2 + 8) b2 (E ++ [122]).length (E ++ [122]) 0 0 0 0 [] = (o2, u2, none) := by
    have := Asc.dec_behind (room := 4 * L2 + 8) (flush := b2) (len := (E ++ [122]).length) q (bs0.take k4) hl4 (by rw [hL2, eL]; omega)
    rw [← eE] at this
    exact ⟨_, _, Prod.ext rfl (Prod.ext rfl this)⟩
  have HD1 := Lib.hid hd1
  have HD2 := Lib.hid hd2
  have EL := Lib.hid eL
  have EL1 := Lib.hid eL1
  have EL2 := Lib.hid eL2
  have EE := Lib.hid eE
  have HTK := Lib.hid htk
  have l1b : L1 ≤ 10000000 := by omega
  have l2b : L2 ≤ 10000000 := by omega
  have lLb : L ≤ 1310725 := by omega
  clear hd1 hd2 eL eL1 eL2 eE htk hl4 hg hL1 hL2 eq ek4 hr0 hr1
  have hs1 := fun W => slice_hi A0 n c0 k4 (by omega) W
  go_enter Tryd.func4, Tryd.ntmps4
  go_wp2_with fail
  refine (impl_encode A0 k4 c0 (bs0.take k4) w HTK.out (rd0.take k4) (by rw [← HTK.out]; omega)).mono ?_
  rw [← EE.out]
  rintro e w1 ⟨gt, dT, rfl, hd1, hd2, hg1, hg2, hrd, hb1⟩
  rw [← EL.out] at hd1 ⊢
  have z1 := hb1.size
  have hcv := fun (W : World) (C : Array Value) (n c : Nat) => Lib.run_convert_bytes_const (P := Tryd.prog) W 22 5 C n c Tryd.underlying22 Tryd.underlying5
  have hs3 := fun W => slice_hi (some ⟨w1.heap.size, 0, none⟩) 4 4 k (by omega) W
  go_wp2_with fail
  obtain ⟨V, hV⟩ : ∃ V, (w1.alloc (.cells #[.int .u8 53, .int .u8 53, .int .u8 53, .int .u8 53] 5 (4, 5))).alloc (.cells #[.int .u8 122] 5) = V := ⟨_, rfl⟩
  have sV : V.heap.size = w1.heap.size + 2 := by subst hV; simp
  have bV : Below w1.heap.size w1 V := by subst hV; exact ((Below.refl _ _).alloc (Nat.le_refl _) _).alloc (by simp) _
  have r1 : Rd V V.heap.size (some ⟨gt, 0, none⟩) E := hrd.up bV
  have r2 : Rd V V.heap.size (some ⟨w1.heap.size, 0, none⟩) (List.replicate k 53) := by
    have h0 : Rd V V.heap.size (some ⟨w1.heap.size, 0, none⟩) [53, 53, 53, 53] := by
      subst hV
      refine Rd.al ?_ _
      refine .inr ⟨w1.heap.size, 0, rfl, by simp, fun i x hx => ?_⟩
      rw [cell_of_row _ w1.heap.size _ _ _ _ (heap_alloc_new w1 _), Nat.zero_add]
      match i, hx with
      | 0, hx => simp at hx; subst hx; rfl
      | 1, hx => simp at hx; subst hx; rfl
      | 2, hx => simp at hx; subst hx; rfl
      | 3, hx => simp at hx; subst hx; rfl
    have h1 := h0.take k
    have e : ([53, 53, 53, 53] : List UInt8).take k = List.replicate k 53 := by
      have : k = 1 ∨ k = 2 ∨ k = 3 ∨ k = 4 := by omega
      rcases this with rfl | rfl | rfl | rfl <;> rfl
    rw [e] at h1
    exact h1
  have r3 : Rd V V.heap.size (some ⟨w1.heap.size + 1, 0, none⟩) [122] := by
    subst hV
    have := Rd.new (w1.alloc (.cells #[.int .u8 53, .int .u8 53, .int .u8 53, .int .u8 53] 5 (4, 5))) [122]
    rw [show (w1.alloc (.cells #[.int .u8 53, .int .u8 53, .int .u8 53, .int .u8 53] 5 (4, 5))).heap.size = w1.heap.size + 1 by simp] at this
    exact this
  have bwV : Below w.heap.size w V := hb1.trans (bV.mono z1)
  have e2' : w1.heap.size + 1 + 1 = V.heap.size := by omega
  rw [hV]
  first | rw [e2'] | skip
  clear hV e2'
  refine (joined3 _ (some ⟨gt, 0, none⟩) (some ⟨w1.heap.size, 0, none⟩) (some ⟨w1.heap.size + 1, 0, none⟩) L dT k 4 1 1 E (List.replicate k 53) [122] V EL.out (by simp) rfl r1 r2 r3 (by rw [← EL.out]; simp; omega) rfl).mono ?_
  rintro e w2 ⟨g2, d2, rfl, ho2, hb2, hs2⟩
  rw [← EL1.out]
  have bw2 : Below w.heap.size w w2 := bwV.trans (hb2.mono (by omega))
  have z2 := hb2.size
  have r12 := r1.up hb2
  have hf2 := fun a b c w => dec_field2 a b c w
  have t5 : (((L + k : Nat) : Int) == (L : Int) + (k : Int)) = true := by simp
  clear r1 r2 r3 bV sV
  go_wp2_with fail
  refine (whole_bad (some ⟨g2, 0, none⟩) L1 d2 (E ++ (List.replicate k 53 ++ [122])) b2 w2 EL1.out ho2.rd (by omega) ((bw2.cell (p := ⟨0, 0, none⟩) hlt0).trans HL.out) (by have := bw2.size; omega) (L + k) HD1.out (by omega)).mono ?_
  rintro e w3 ⟨g3, R3, rfl, hb3⟩
  have bw3 : Below w.heap.size w w3 := bw2.trans (hb3.mono bw2.size)
  have z3 := hb3.size
  have r13 := r12.up hb3
  clear r12 ho2 hb3
  go_wp2_with fail
  obtain ⟨W, hW⟩ : ∃ W, w3.alloc (.cells #[.int .u8 122] 5) = W := ⟨_, rfl⟩
  have sW : W.heap.size = w3.heap.size + 1 := by subst hW; simp
  have q1 : Rd W W.heap.size (some ⟨gt, 0, none⟩) E := by subst hW; exact r13.al _
  have q2 : Rd W W.heap.size (some ⟨w3.heap.size, 0, none⟩) [122] := by subst hW; exact Rd.new w3 [122]
  have bwW : Below w.heap.size w W := by subst hW; exact bw3.alloc bw3.size _
  rw [hW, ← sW]
  clear hW
  refine (joined2 (some ⟨gt, 0, none⟩) (some ⟨w3.heap.size, 0, none⟩) L dT 1 1 E [122] W EL.out rfl q1 q2 (by rw [← EL.out]; simp; omega)).mono ?_
  rintro e w4 ⟨g4, d4, rfl, ho4, hb4, hs4⟩
  rw [← EL2.out]
  have bw4 : Below w.heap.size w w4 := bwW.trans (hb4.mono bwW.size)
  clear q1 q2 r13 hb4
  go_wp2_with fail
  refine (whole_any (some ⟨g4, 0, none⟩) L2 d4 (E ++ [122]) b2 w4 EL2.out ho4.rd (by omega) o2 u2 HD2.out).mono ?_
  rintro e w5 ⟨g5, rfl, _, _, _, _, hb5⟩
  have bw5 : Below w.heap.size w w5 := bw4.trans (hb5.mono bw4.size)
  obtain ⟨lo, elo⟩ : ∃ l, l = o2.length := ⟨_, rfl⟩
  rw [← elo]
  clear elo hb5 ho4
  go_wp2_with fail
  go_ret
  exact ⟨rfl, bw5⟩

end Go.Proofs.YtmddbfcghddacaaDoor

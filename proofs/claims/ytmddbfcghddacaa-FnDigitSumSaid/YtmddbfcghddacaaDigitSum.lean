/-
  FnDigitSum: the digits of a group of four bytes, not all of them 0, are less than 85 and follow the arithmetic of the base 85, for every four bytes. No condition.
-/
import Derived.Test.YtmddbfcghddacaaGroup
import Derived.Test.YtmddbfcghddacaaImp
import Derived.ProofKit
import Derived.OpenShut
import Derived.ShutString
import Derived.ChangeOld
namespace Go.Proofs.Ytmddbfcghddacaa
open Go.RowKit

theorem five_digits (V : Nat) (h : V < 4294967296) : ∃ a b c d e : Nat, a < 85 ∧ b < 85 ∧ c < 85 ∧ d < 85 ∧ e < 85 ∧ V = (((a * 85 + b) * 85 + c) * 85 + d) * 85 + e ∧
    (Asc.dig V 4).toNat = 33 + a ∧ (Asc.dig V 3).toNat = 33 + b ∧ (Asc.dig V 2).toNat = 33 + c ∧ (Asc.dig V 1).toNat = 33 + d ∧ (Asc.dig V 0).toNat = 33 + e := by
  refine ⟨V / 52200625 % 85, V / 614125 % 85, V / 7225 % 85, V / 85 % 85, V % 85, by omega, by omega, by omega, by omega, by omega, by omega, ?_, ?_, ?_, ?_, ?_⟩ <;> rw [Asc.dig_toNat] <;> simp only [Nat.reducePow, Nat.div_one]

set_option maxRecDepth 100000 in
set_option maxHeartbeats 2000000 in
theorem digitSum_walk (x0 x1 x2 x3 : UInt8) (w : World) :
    Calls Try.prog 4 #[.int .u8 (x0.toNat : Int), .int .u8 (x1.toNat : Int), .int .u8 (x2.toNat : Int), .int .u8 (x3.toNat : Int)] w fun e w' => e = .returned (.bool true) ∧ Below w.heap.size w w' := by
  have hVb := Asc.be4_lt x0 x1 x2 x3
  have henc := Asc.enc_cons4 x0 x1 x2 x3 []
  obtain ⟨V, hV⟩ : ∃ V, Asc.be4 x0 x1 x2 x3 = V := ⟨_, rfl⟩
  rw [hV] at hVb henc
  have HV := Lib.hid hV
  clear hV
  go_enter Try.func4, Try.ntmps4
  go_wp2_with fail
  obtain ⟨W, hW⟩ : ∃ W, w.alloc (.cells #[.int .u8 (x0.toNat : Int), .int .u8 (x1.toNat : Int), .int .u8 (x2.toNat : Int), .int .u8 (x3.toNat : Int)] 5) = W := ⟨_, rfl⟩
  rw [hW]
  have c0 : W.cell? ⟨w.heap.size, 0, none⟩ = some (.int .u8 (x0.toNat : Int)) := by subst hW; simp
  have c1 : W.cell? ⟨w.heap.size, 0 + 1, none⟩ = some (.int .u8 (x1.toNat : Int)) := by subst hW; simp
  have c2 : W.cell? ⟨w.heap.size, 0 + 2, none⟩ = some (.int .u8 (x2.toNat : Int)) := by subst hW; simp
  have c3 : W.cell? ⟨w.heap.size, 0 + 3, none⟩ = some (.int .u8 (x3.toNat : Int)) := by subst hW; simp
  have hWB : Below w.heap.size w W := by subst hW; exact (Below.refl _ _).alloc (Nat.le_refl _) _
  have hWs : w.heap.size < W.heap.size := by subst hW; simp
  clear hW
  refine (group_any w.heap.size 0 4 4 x0 x1 x2 x3 W (Nat.le_refl _) c0 c1 c2 c3).mono ?_
  rintro e w1 ⟨rfl, k, rfl⟩
  rw [HV.out]
  by_cases hV0 : V = 0
  · subst hV0
    go_wp2_with fail
    go_ret
    exact ⟨rfl, hWB.trans ⟨rfl, rfl, rfl, Nat.le_refl _, fun _ _ => rfl⟩⟩
  · have hV1 : ((V : Int) == 0) = false := by simp; omega
    go_wp2_with fail
    refine (impl_encode (some ⟨w.heap.size, 0, none⟩) 4 4 [x0, x1, x2, x3] _ rfl ?_ (by simp)).mono ?_
    · refine .inr ⟨w.heap.size, 0, rfl, hWs, fun i x hx => ?_⟩
      show W.cell? _ = _
      match i, hx with
      | 0, hx => simp at hx; subst hx; exact c0
      | 1, hx => simp at hx; subst hx; exact c1
      | 2, hx => simp at hx; subst hx; exact c2
      | 3, hx => simp at hx; subst hx; exact c3
    rw [henc, Asc.enc_nil, List.append_nil, Asc.grp, if_neg hV0]
    rintro e w2 ⟨g, d, rfl, hd1, hd2, hg1, hg2, hrd, hb2⟩
    obtain ⟨D0, D1, D2, D3, D4, l0, l1, l2, l3, l4, hsum, v0, v1, v2, v3, v4⟩ := five_digits V hVb
    have hcell : ∀ i x, (Asc.dig5 V)[i]? = some x → w2.cell? ⟨g, i, none⟩ = some (.int .u8 (x.toNat : Int)) := by
      rcases hrd with e | ⟨b, off, e, _, hc⟩
      · simp [Asc.dig5] at e
      · injection e with e; injection e with e1 e2; subst e1; subst e2
        intro i x hx
        have := hc i x hx
        rwa [Nat.zero_add] at this
    have q0 : w2.cell? ⟨g, 0, none⟩ = some (.int .u8 (33 + (D0 : Int))) := by rw [hcell 0 (Asc.dig V 4) rfl, v0]; rfl
    have q1 : w2.cell? ⟨g, 1, none⟩ = some (.int .u8 (33 + (D1 : Int))) := by rw [hcell 1 (Asc.dig V 3) rfl, v1]; rfl
    have q2 : w2.cell? ⟨g, 2, none⟩ = some (.int .u8 (33 + (D2 : Int))) := by rw [hcell 2 (Asc.dig V 2) rfl, v2]; rfl
    have q3 : w2.cell? ⟨g, 3, none⟩ = some (.int .u8 (33 + (D3 : Int))) := by rw [hcell 3 (Asc.dig V 1) rfl, v3]; rfl
    have q4 : w2.cell? ⟨g, 4, none⟩ = some (.int .u8 (33 + (D4 : Int))) := by rw [hcell 4 (Asc.dig V 0) rfl, v4]; rfl
    have hfin : Below w.heap.size w w2 := hWB.trans (⟨hb2.os, hb2.tape, hb2.output, hb2.size, fun k hk => hb2.block k (Nat.lt_trans hk hWs)⟩)
    have f1 : ((33 + (D0 : Int) - 33 + (33 + (D1 : Int) - 33) + (33 + (D2 : Int) - 33) + (33 + (D3 : Int) - 33) + (33 + (D4 : Int) - 33)) % 84 == (V : Int) % 84) = true := by rw [beq_iff_eq]; omega
    have f2 : ((33 + (D0 : Int) - 33 + (86 - (33 + (D1 : Int) - 33)) + (33 + (D2 : Int) - 33) + (86 - (33 + (D3 : Int) - 33)) + (33 + (D4 : Int) - 33)) % 86 == (V : Int) % 86) = true := by rw [beq_iff_eq]; omega
    have f3 : (33 + (D4 : Int) - 33 == (V : Int) % 85) = true := by rw [beq_iff_eq]; omega
    clear hsum hcell hrd henc v0 v1 v2 v3 v4 hb2
    have len5 : (Asc.dig5 V).length = 5 := rfl
    rw [len5]
    clear len5
    go_wp2
    refine wp_loop_rounds 6 ?_
    iterate 6 (rw [rounds_succ]; go_wp2)
    go_ret
    exact ⟨rfl, hfin⟩

end Go.Proofs.Ytmddbfcghddacaa

/-
  laws.FnShakeRoads' closure: how many bytes the sizes ask for; a row of pieces as joined takes it. Condition: at most 1048576 sizes.
-/
import Derived.Test.YtemojkjcnkbpoaaShkO
import Derived.Test.YtemojkjcnkbpoaaJoined
namespace Go.Proofs.Ytemojkjcnkbpoaa
open Go.RowKit
open Spo
set_option linter.unusedVariables false

theorem pieces_sl {w : World} {base : Nat} : ∀ {vs : List Value} {ps : List (List UInt8)}, Pieces w base vs ps → ∃ ls : List Sl, ls.length = vs.length ∧ (∀ (i : Nat) (e : Sl), ls[i]? = some e → vs[i]? = some (.slice e.1 e.2.2.length e.2.1) ∧ Rd w w.heap.size e.1 e.2.2) ∧ flat ls = ps.flatten
  | [], [], _ => ⟨[], rfl, fun i e h => by simp at h, rfl⟩
  | [], _ :: _, h => by have := h.1; simp at this
  | _ :: _, [], h => by have := h.1; simp at this
  | v :: vs, p :: ps, h => by
    obtain ⟨ls, h1, h2, h3⟩ := pieces_sl (vs := vs) (ps := ps) ⟨by have := h.1; simpa using this, fun i u q a b => h.2 (i + 1) u q (by simpa using a) (by simpa using b)⟩
    have hp := h.2 0 v p rfl rfl
    obtain ⟨gi, di, cs, rfl, _⟩ := id hp
    refine ⟨(some ⟨gi, 0, none⟩, di, p) :: ls, by simp [h1], fun i e he => ?_, ?_⟩
    · cases i with
      | zero => simp at he; subst he; exact ⟨rfl, hp.rd⟩
      | succ i => simp at he; exact ⟨by simpa using (h2 i e he).1, (h2 i e he).2⟩
    · unfold flat at h3 ⊢
      rw [List.flatMap_cons, List.flatten_cons, h3]

set_option maxHeartbeats 2000000 in
theorem due_any (A : Option Addr) (n c : Nat) (zs : List Int) (w : World) (hn : n = zs.length) (h : RdI w w.heap.size A zs) (hl : n ≤ 1048576) :
    Calls Try.prog 6 #[.slice A n c] w fun e w' => e = .returned (.int .i64 (tot zs : Int)) ∧ w' = w := by
  have HN := Lib.hid hn
  have HRI := Lib.hid h
  have htl := tot_le zs
  have HTL := Lib.hid htl
  clear hn h htl
  go_enter Try.func6, Try.ntmps6
  go_wp2_with fail
  go_loopg [3, 8] n (fun gk sv ix wr => ∃ (i t : Nat), i + gk = n ∧ ix = .int .i64 (i : Int) ∧ sv = .int .i64 (t : Int) ∧ Hid (t + tot (zs.drop i) = tot zs) ∧ wr = w)
  case atStart => exact ⟨0, 0, by omega, rfl, rfl, by show _ = _; rw [List.drop_zero, Nat.zero_add], rfl⟩
  case round =>
    obtain ⟨i, t, hi, rfl, rfl, ht, rfl⟩ := hrel
    have HI := Lib.hid hi
    have him : i ≤ n := by omega
    clear hi
    by_cases hlt : i < n
    · obtain ⟨b, off, z, rfl, hb, hz, hcz⟩ : ∃ b off z, A = some ⟨b, off, none⟩ ∧ b < wr.heap.size ∧ zs[i]? = some z ∧ wr.cell? ⟨b, off + i, none⟩ = some (.int .i64 z) := by
        have hil : i < zs.length := by have := HN.out; omega
        rcases HRI.out.2 with e | ⟨b, off, e, hb, hc⟩
        · rw [e] at hil; simp at hil
        · exact ⟨b, off, zs[i], e, hb, List.getElem?_eq_getElem hil, hc i _ (List.getElem?_eq_getElem hil)⟩
      obtain ⟨q, hq⟩ : ∃ q : Nat, q = min z.toNat 5000 := ⟨_, rfl⟩
      have hq5 : q ≤ 5000 := by omega
      have hts := tot_step hz
      rw [← hq] at hts
      have ht' := ht.out
      rw [hts, ← Nat.add_assoc] at ht'
      have htb : t + q ≤ 6000000000 := by have := HTL.out; have := HN.out; omega
      have HT := Lib.hid ht'
      have HQ := Lib.hid hq
      clear hz hts ht' hq
      by_cases hz0 : z < 0
      · obtain rfl : q = 0 := by have := HQ.out; omega
        go_wp2_with fail
        go_roundg (gk - 1)
        case measure => have := HI.out; omega
        case rel => exact ⟨i + 1, t + 0, by have := HI.out; omega, by go_num, by congr 1 <;> omega, HT, rfl⟩
      · by_cases hz5 : 5000 < z
        · obtain rfl : q = 5000 := by have := HQ.out; omega
          go_wp2_with fail
          go_roundg (gk - 1)
          case measure => have := HI.out; omega
          case rel => exact ⟨i + 1, t + 5000, by have := HI.out; omega, by go_num, by congr 1 <;> omega, HT, rfl⟩
        · obtain rfl : z = (q : Int) := by have := HQ.out; omega
          go_wp2_with fail
          go_roundg (gk - 1)
          case measure => have := HI.out; omega
          case rel => exact ⟨i + 1, t + q, by have := HI.out; omega, by go_num, by congr 1 <;> omega, HT, rfl⟩
    · have hz : zs.drop i = [] := List.drop_eq_nil_of_le (by have := HN.out; omega)
      have ht' := ht.out
      rw [hz, tot, Nat.add_zero] at ht'
      have HT := Lib.hid ht'
      clear hz ht'
      go_wp2_with fail
      go_ret
      exact ⟨by rw [HT.out]; rfl, rfl⟩

end Go.Proofs.Ytemojkjcnkbpoaa

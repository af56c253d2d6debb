/-
  laws.joined puts lists of bytes one behind the other, in a new row. Condition: at most 2 * 10^14 bytes in all.
-/
import Derived.Test.YtemojkjcnkbpoaaOwn
import Derived.Test.YtemojkjcnkbpoaaApp
import Derived.Deep.LoopGhost
namespace Go.Proofs.Ytemojkjcnkbpoaa
open Go.RowKit

/-- a slice of bytes as a value: its address, its capacity, its bytes -/
abbrev Sl := Option Addr × Nat × List UInt8
def flat (ls : List Sl) : List UInt8 := ls.flatMap fun e => e.2.2

theorem flat_step {ls : List Sl} {i : Nat} {e : Sl} (h : ls[i]? = some e) : flat (ls.take i) ++ e.2.2 = flat (ls.take (i + 1)) := by
  unfold flat
  rw [List.take_add_one, h, List.flatMap_append]
  simp

theorem flat_len_le (ls : List Sl) (i : Nat) : (flat (ls.take i)).length ≤ (flat ls).length := by
  unfold flat
  conv => rhs; rw [← List.take_append_drop i ls, List.flatMap_append, List.length_append]
  omega

set_option maxHeartbeats 1000000 in
theorem joined_any (L o m c : Nat) (ls : List Sl) (w : World) (hm : m = ls.length) (hmb : m ≤ 4611686018427387904) (hcells : ∀ (i : Nat) (e : Sl), ls[i]? = some e → w.cell? ⟨L, o + i, none⟩ = some (.slice e.1 e.2.2.length e.2.1)) (hL : L < w.heap.size)
    (hrd : ∀ (i : Nat) (e : Sl), ls[i]? = some e → Rd w w.heap.size e.1 e.2.2) (hl : (flat ls).length ≤ 200000000000000) :
    Calls Try.prog 4 #[.slice (some ⟨L, o, none⟩) m c] w fun e w' => ∃ g d, e = .returned (.slice (some ⟨g, 0, none⟩) (flat ls).length d) ∧ Own w' w.heap.size g d (flat ls) ∧ Below w.heap.size w w' := by
  have HM := Lib.hid hm
  have HC := Lib.hid hcells
  have HR := Lib.hid hrd
  clear hm hcells hrd
  go_enter Try.func4, Try.ntmps4
  go_wp2
  go_loopg [3, 9] m (fun gk v ix wr => ∃ (i g d n : Nat), i + gk = m ∧ ix = .int .i64 (i : Int) ∧ v = .slice (some ⟨g, 0, none⟩) n d ∧ Hid (n = (flat (ls.take i)).length) ∧ Hid (Own wr w.heap.size g d (flat (ls.take i))) ∧ Hid (Below w.heap.size w wr))
  case atStart => exact ⟨0, w.heap.size, 0, 0, by omega, rfl, rfl, rfl, Own.empty w _ (Nat.le_refl _), (Below.refl _ _).alloc (Nat.le_refl _) _⟩
  case round =>
    obtain ⟨i, g, d, n, hi, rfl, rfl, hn, hown, hbel⟩ := hrel
    have HI := Lib.hid hi
    have him : i ≤ m := by omega
    clear hi
    by_cases hlt : i < m
    · obtain ⟨e, he⟩ : ∃ e, ls[i]? = some e := ⟨_, List.getElem?_eq_getElem (by have := HM.out; omega)⟩
      have hc := (hbel.out.cell (p := ⟨L, o + i, none⟩) hL).trans (HC.out i e he)
      have hr := (HR.out i e he).below hbel.out
      have hst := flat_step he
      have hle := flat_len_le ls (i + 1)
      rw [← hst] at hle
      obtain ⟨Ae, ce, be⟩ := e
      simp only at hc hr hst hle
      obtain ⟨ne, hne⟩ : ∃ ne, be.length = ne := ⟨_, rfl⟩
      rw [hne] at hc
      have HE := Lib.hid hne
      have HS := Lib.hid hst
      have HLE := Lib.hid hle
      have hsz := hbel.out.size
      clear hne hst hle he
      go_wp2_with (at_builtin; refine wpList_append_bytes rfl _ _ 22 rfl Try.underlying22 w.heap.size g d (flat (ls.take i)) be n ne rfl hn.out hown.out w.heap.size Ae ce rfl HE.out.symm hr (by have := HLE.out; rw [List.length_append] at this; omega) hsz ?_; intro g' c' w1 h1 h2)
      go_roundg (gk - 1)
      case measure => have := HI.out; omega
      case rel =>
        rw [HS.out] at h1
        refine ⟨i + 1, g', c', _, by have := HI.out; omega, by go_num, rfl, ?_, h1, ?_⟩
        · show _ = _
          rw [← HS.out]
          try simp
        · exact hbel.out.grown h2 hsz (fun j hj => by injection hj with hj; subst hj; exact hown.out.lt'.1)
    · have hfull : flat (ls.take i) = flat ls := by rw [List.take_of_length_le (by have := HM.out; omega)]
      have HF := Lib.hid hfull
      clear hfull
      go_wp2
      go_ret
      have h1 := hown.out
      have h2 := hn.out
      rw [HF.out] at h1 h2
      subst h2
      exact ⟨g, d, rfl, h1, hbel.out⟩

/-- two lists, as the caller lays them -/
theorem joined2 (A1 A2 : Option Addr) (n1 c1 n2 c2 : Nat) (b1 b2 : List UInt8) (w : World) (h1 : n1 = b1.length) (h2 : n2 = b2.length) (r1 : Rd w w.heap.size A1 b1) (r2 : Rd w w.heap.size A2 b2) (hl : b1.length + b2.length ≤ 200000000000000) :
    Calls Try.prog 4 #[.slice (some ⟨w.heap.size, 0, none⟩) 2 2] (w.alloc (.cells #[.slice A1 n1 c1, .slice A2 n2 c2] 22)) fun e w' =>
      ∃ g d, e = .returned (.slice (some ⟨g, 0, none⟩) (b1 ++ b2).length d) ∧ Own w' (w.heap.size + 1) g d (b1 ++ b2) ∧ Below w.heap.size w w' ∧ w.heap.size < w'.heap.size := by
  subst h1
  subst h2
  have hsz : (w.alloc (.cells #[.slice A1 b1.length c1, .slice A2 b2.length c2] 22)).heap.size = w.heap.size + 1 := by simp
  have hf : flat [(A1, c1, b1), (A2, c2, b2)] = b1 ++ b2 := by simp [flat]
  refine (joined_any w.heap.size 0 2 2 [(A1, c1, b1), (A2, c2, b2)] _ rfl (by omega) ?_ (by omega) ?_ (by rw [hf, List.length_append]; exact hl)).mono ?_
  · intro i e he
    rw [cell_of_row _ w.heap.size _ _ _ _ (heap_alloc_new w _)]
    match i, he with
    | 0, he => simp at he; subst he; rfl
    | 1, he => simp at he; subst he; rfl
  · intro i e he
    match i, he with
    | 0, he => simp at he; subst he; exact (r1.alloc (Nat.le_refl _) _).mono (by omega)
    | 1, he => simp at he; subst he; exact (r2.alloc (Nat.le_refl _) _).mono (by omega)
  · rw [hf, hsz]
    rintro e w' ⟨g, d, he, hown, hb⟩
    refine ⟨g, d, he, hown, ((Below.refl _ _).alloc (Nat.le_refl _) _).trans (hb.mono (by omega)), ?_⟩
    have := hb.size
    omega

end Go.Proofs.Ytemojkjcnkbpoaa

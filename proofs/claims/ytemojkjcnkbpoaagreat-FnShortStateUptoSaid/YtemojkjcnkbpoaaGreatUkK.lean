/-
  All kinds of hash, 0 to 10, in the words for all kinds. No condition.
-/
import Derived.Test.YtemojkjcnkbpoaaGreatShaB
import Derived.Test.YtemojkjcnkbpoaaGreatStA
namespace Go.Proofs.YtemojkjcnkbpoaaGreat
open Go.RowKit
set_option linter.unusedVariables false

def BadA (k : Nat) (p : List UInt8) : Prop := if k < 7 then p.length ≠ 4 + lenK k ∨ p.take 4 ≠ magicK k else BadS (rateA k) p

structure AllK (k : Nat) (tw : TypeId) (fW fS fM fU : FuncId) (St : World → Nat → List UInt8 → Prop) : Prop where
  kh : HK Tryz.prog 17 (k : Int) tw fW fS St (sumA k)
  km : MK Tryz.prog tw fM St (stateA k)
  ku : UK Tryz.prog tw fU St (BadA k)

theorem allK (k : Nat) (hk : k < 11) : ∃ tw fW fS fM fU St, AllK k tw fW fS fM fU St := by
  by_cases h7 : k < 7
  · have e1 : sumA k = sumK k := funext fun bs => if_pos h7
    have e2 : stateA k = stateK k := funext fun bs => if_pos h7
    have e3 : BadA k = fun p => p.length ≠ 4 + lenK k ∨ p.take 4 ≠ magicK k := funext fun p => if_pos h7
    have key : ∀ tw fW fS fM fU St, HK Tryz.prog 17 (k : Int) tw fW fS St (sumK k) → MK Tryz.prog tw fM St (stateK k) → UK Tryz.prog tw fU St (fun p => p.length ≠ 4 + lenK k ∨ p.take 4 ≠ magicK k) → ∃ tw fW fS fM fU St, AllK k tw fW fS fM fU St :=
      fun tw fW fS fM fU St a b c => ⟨tw, fW, fS, fM, fU, St, by rw [e1]; exact a, by rw [e2]; exact b, by rw [e3]; exact c⟩
    rcases kinds7 h7 with rfl | rfl | rfl | rfl | rfl | rfl | rfl
    · exact key _ _ _ _ _ _ hk_0 mk_0 uk_0
    · exact key _ _ _ _ _ _ hk_1 mk_1 uk_1
    · exact key _ _ _ _ _ _ hk_2 mk_2 uk_2
    · exact key _ _ _ _ _ _ hk_3 mk_3 uk_3
    · exact key _ _ _ _ _ _ hk_4 mk_4 uk_4
    · exact key _ _ _ _ _ _ hk_5 mk_5 uk_5
    · exact key _ _ _ _ _ _ hk_6 mk_6 uk_6
  · have e1 : sumA k = sumS (rateA k) (outA k) := funext fun bs => if_neg h7
    have e2 : stateA k = stateS (rateA k) := funext fun bs => if_neg h7
    have e3 : BadA k = BadS (rateA k) := funext fun p => if_neg h7
    have key : ∀ tw fW fS fM fU St, HK Tryz.prog 17 (k : Int) tw fW fS St (sumS (rateA k) (outA k)) → MK Tryz.prog tw fM St (stateS (rateA k)) → UK Tryz.prog tw fU St (BadS (rateA k)) → ∃ tw fW fS fM fU St, AllK k tw fW fS fM fU St :=
      fun tw fW fS fM fU St a b c => ⟨tw, fW, fS, fM, fU, St, by rw [e1]; exact a, by rw [e2]; exact b, by rw [e3]; exact c⟩
    rcases kinds4 hk h7 with rfl | rfl | rfl | rfl
    · exact key _ _ _ _ _ _ hk_7 mk_7 (uk_S (by decide) (by unfold OutOk; decide))
    · exact key _ _ _ _ _ _ hk_8 mk_8 (uk_S (by decide) (by unfold OutOk; decide))
    · exact key _ _ _ _ _ _ hk_9 mk_9 (uk_S (by decide) (by unfold OutOk; decide))
    · exact key _ _ _ _ _ _ hk_10 mk_10 (uk_S (by decide) (by unfold OutOk; decide))

/-- a state that lacks its last bytes -/
theorem bad_short (k : Nat) (hk : k < 11) (bs : List UInt8) (j : Nat) (hj : j < lensA k) : BadA k ((stateA k bs).take j) := by
  have hl : ((stateA k bs).take j).length = j := by rw [List.length_take, stateA_len k hk]; omega
  unfold BadA
  unfold lensA at hj
  split
  · rename_i h7
    rw [if_pos h7] at hj
    exact .inl (by rw [hl]; omega)
  · rename_i h7
    rw [if_neg h7] at hj
    exact .inl (by rw [hl]; omega)

theorem magic_ne {k j : Nat} (hk : k < 7) (hj : j < 7) (h : k ≠ j) : magicK k ≠ magicK j := by
  rcases kinds7 hk with rfl | rfl | rfl | rfl | rfl | rfl | rfl <;> rcases kinds7 hj with rfl | rfl | rfl | rfl | rfl | rfl | rfl <;> first | (exact absurd rfl h) | decide
theorem magic_ne8 {k : Nat} (hk : k < 7) : magicK k ≠ mag8 := by
  rcases kinds7 hk with rfl | rfl | rfl | rfl | rfl | rfl | rfl <;> decide
theorem state_take4 (k : Nat) (bs : List UInt8) : (stateA k bs).take 4 = if k < 7 then magicK k else mag8 := by
  unfold stateA
  split
  · rename_i h7
    rw [stateK, List.take_append_of_le_length (by rw [magicK_len h7]; omega), List.take_of_length_le (by rw [magicK_len h7]; omega)]
  · unfold stateS mag8
    rfl
theorem rate_ne {k j : Nat} (hk : k < 11) (hj : j < 11) (h7 : ¬ k < 7) (h7' : ¬ j < 7) (h : k ≠ j) : UInt8.ofNat (rateA k) ≠ UInt8.ofNat (rateA j) := by
  rcases kinds4 hk h7 with rfl | rfl | rfl | rfl <;> rcases kinds4 hj h7' with rfl | rfl | rfl | rfl <;> first | (exact absurd rfl h) | decide

/-- a state of another kind -/
theorem bad_other (k j : Nat) (hk : k < 11) (hj : j < 11) (h : k ≠ j) (bs : List UInt8) : BadA k (stateA j bs) := by
  have h4 := state_take4 j bs
  unfold BadA
  split
  · rename_i h7
    refine .inr ?_
    rw [h4]
    split
    · exact magic_ne (by assumption) h7 (fun e => h e.symm)
    · exact (magic_ne8 h7).symm
  · rename_i h7
    unfold BadS
    by_cases h7' : j < 7
    · rw [if_pos h7'] at h4
      exact .inr (.inl (by rw [h4]; exact magic_ne8 h7'))
    · refine .inr (.inr ?_)
      have e : (stateA j bs)[4]? = some (UInt8.ofNat (rateA j)) := by
        unfold stateA
        rw [if_neg h7']
        rfl
      rw [e]
      intro e2
      injection e2 with e2
      exact rate_ne hj hk h7' h7 (fun e => h e.symm) e2

end Go.Proofs.YtemojkjcnkbpoaaGreat

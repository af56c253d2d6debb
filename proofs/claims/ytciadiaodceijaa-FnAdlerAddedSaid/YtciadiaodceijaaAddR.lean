/-
  The statement of FnAdlerAdded that lays three bytes and appends them to three rows, in whatever order: an invariant over its operations. No condition but the size.
-/
import Derived.Test.YtciadiaodceijaaTri
import Derived.WalkLawsBesides
namespace Go.Proofs.Ytciadiaodceijaa
open Go.RowKit
set_option linter.unusedVariables false

theorem op_val {P : Program} {ops : Array Oper} {Q : Exit → Act → World → Prop} {K : Act → World → Prop} {i : Nat} {o : Oper} {a : Act} {w w' : World} {v : Value} (ho : ops[i]? = some o) (hg : o.guard = none) (hrun : (execOp a.eval o).run P w = .ok (.value v) w') (hK : K (a.put o.dst v) w') : wpOp P ops Q i K a w := by
  have hw : Region.wanted o (yielded ops a.tmps) = true := by simp [Region.wanted, hg]
  unfold wpOp
  simp only [ho]
  rw [if_pos hw]
  refine .inl ?_
  unfold Oper.wp
  rw [hrun]
  exact hK
theorem run_move {P : Program} {o : Oper} {a : Act} {w : World} {x : Operand} {v : Value} (hop : o.op = .move x ∨ o.op = .assign x) (hx : a.eval x = v) : (execOp a.eval o).run P w = .ok (.value v) w := by
  unfold execOp
  rcases hop with h | h <;> rw [h] <;> simp [hx]

section
variable (V0 V6 V7 V8 I PA X O XO : Value)
/-- what the operations that only compute leave -/
def tabV (i : Nat) : Option Value := match i with
  | 0 => some V6 | 1 => some V0 | 2 => some I | 3 => some PA | 4 => some X | 7 => some V7 | 8 => some O | 11 => some V8 | 12 => some V0 | 13 => some I | 14 => some PA | 15 => some X | 16 => some O | 17 => some XO | _ => none
end

structure Jst where
  base : Nat
  g1 : Nat
  c1 : Nat
  xs1 : List UInt8
  x1 : UInt8
  g2 : Nat
  c2 : Nat
  xs2 : List UInt8
  x2 : UInt8
  g3 : Nat
  c3 : Nat
  xs3 : List UInt8
  x3 : UInt8
  V6 : Value
  V7 : Value
  V8 : Value
  tab : Nat → Option Value

def Jst.D1 (J : Jst) (l : Array Bool) (s : Nat → Value) : ChD := ⟨l.getD 5 false, l.getD 6 false, s 51, s 52, J.g1, J.c1, J.xs1, J.x1⟩
def Jst.D2 (J : Jst) (l : Array Bool) (s : Nat → Value) : ChD := ⟨l.getD 9 false, l.getD 10 false, s 55, s 56, J.g2, J.c2, J.xs2, J.x2⟩
def Jst.D3 (J : Jst) (l : Array Bool) (s : Nat → Value) : ChD := ⟨l.getD 18 false, l.getD 19 false, s 64, s 65, J.g3, J.c3, J.xs3, J.x3⟩

structure Inv (J : Jst) (w0 : World) (l : Array Bool) (s : Nat → Value) (w : World) : Prop where
  size : l.size = 23
  t20 : l.getD 20 false = true → ∀ k, k < 7 → l.getD k false = true
  t21 : l.getD 21 false = true → ∀ k, k < 11 → l.getD k false = true
  t22 : l.getD 22 false = true → ∀ k, k < 20 → l.getD k false = true
  val : ∀ i v, J.tab i = some v → l.getD i false = true → s (46 + i) = v
  a6 : s 6 = if l.getD 20 false then s 52 else J.V6
  a7 : s 7 = if l.getD 21 false then s 56 else J.V7
  a8 : s 8 = if l.getD 22 false then s 65 else J.V8
  o6 : l.getD 6 false = true → l.getD 5 false = true
  o10 : l.getD 10 false = true → l.getD 9 false = true
  o19 : l.getD 19 false = true → l.getD 18 false = true
  tri : Tri J.base w (J.D1 l s) (J.D2 l s) (J.D3 l s)
  bel : Below J.base w0 w
  bas : J.base ≤ w.heap.size

theorem getD_set (l : Array Bool) (i k : Nat) (h : i < l.size) : (l.setIfInBounds i true).getD k false = if k = i then true else l.getD k false := by
  simp only [Array.getD_eq_getD_getElem?, Array.getElem?_setIfInBounds]
  by_cases e : i = k
  · subst e; simp [h]
  · rw [if_neg e, if_neg (fun e' => e e'.symm)]
theorem getD_tf {l : Array Bool} {i : Nat} (h : l.getD i true = false) : i < l.size ∧ l.getD i false = false := by
  simp only [Array.getD_eq_getD_getElem?] at h ⊢
  cases e : l[i]? with
  | none => rw [e] at h; simp at h
  | some b => rw [e] at h; simp at h; subst h; exact ⟨(Array.getElem?_eq_some_iff.1 e).1, rfl⟩

/-- an operation that only computes -/
theorem Inv.pure {J : Jst} {w0 w : World} {l : Array Bool} {s : Nat → Value} (h : Inv J w0 l s w) (i : Nat) (v : Value) (ht : J.tab i = some v) (hi : i < 20) (hu : l.getD i true = false) (hn : i ≠ 5 ∧ i ≠ 6 ∧ i ≠ 9 ∧ i ≠ 10 ∧ i ≠ 18 ∧ i ≠ 19) : Inv J w0 (l.setIfInBounds i true) (upd s (46 + i) v) w := by
  obtain ⟨n5, n6, n9, n10, n18, n19⟩ := hn
  have hs := (getD_tf hu).1
  have g := fun k => getD_set l i k hs
  have gn : ∀ k, k ≠ i → (l.setIfInBounds i true).getD k false = l.getD k false := fun k hk => by rw [g, if_neg hk]
  have u : ∀ k, k ≠ 46 + i → upd s (46 + i) v k = s k := fun k hk => upd_ne s v hk
  have mono : ∀ k, l.getD k false = true → (l.setIfInBounds i true).getD k false = true := fun k hk => by rw [g]; split; rfl; exact hk
  refine ⟨by simp [h.size], fun hl k hk => ?_, fun hl k hk => ?_, fun hl k hk => ?_, fun k v' hk hl => ?_, ?_, ?_, ?_, ?_, ?_, ?_, ?_, h.bel, h.bas⟩
  · rw [gn 20 (by omega)] at hl; exact mono k (h.t20 hl k hk)
  · rw [gn 21 (by omega)] at hl; exact mono k (h.t21 hl k hk)
  · rw [gn 22 (by omega)] at hl; exact mono k (h.t22 hl k hk)
  · by_cases e : k = i
    · subst e
      rw [upd_same]
      rw [ht] at hk
      injection hk
    · rw [gn k e] at hl
      rw [u _ (by omega)]
      exact h.val k v' hk hl
  · rw [u 6 (by omega), u 52 (by omega), gn 20 (by omega)]; exact h.a6
  · rw [u 7 (by omega), u 56 (by omega), gn 21 (by omega)]; exact h.a7
  · rw [u 8 (by omega), u 65 (by omega), gn 22 (by omega)]; exact h.a8
  · rw [gn 6 n6.symm, gn 5 n5.symm]; exact h.o6
  · rw [gn 10 n10.symm, gn 9 n9.symm]; exact h.o10
  · rw [gn 19 n19.symm, gn 18 n18.symm]; exact h.o19
  · have := h.tri
    unfold Jst.D1 Jst.D2 Jst.D3 at this ⊢
    rw [gn 5 n5.symm, gn 6 n6.symm, gn 9 n9.symm, gn 10 n10.symm, gn 18 n18.symm, gn 19 n19.symm, u 51 (by omega), u 52 (by omega), u 55 (by omega), u 56 (by omega), u 64 (by omega), u 65 (by omega)]
    exact this

/-- a step of a chain: i is one of 5, 6, 9, 10, 18, 19 -/
theorem Inv.chain {J : Jst} {w0 w w' : World} {l : Array Bool} {s : Nat → Value} (h : Inv J w0 l s w) (i : Nat) (v : Value) (ht : J.tab i = none) (hi : i < 20) (hu : l.getD i true = false)
    (h6 : i = 6 → l.getD 5 false = true) (h10 : i = 10 → l.getD 9 false = true) (h19 : i = 19 → l.getD 18 false = true)
    (htri : Tri J.base w' (J.D1 (l.setIfInBounds i true) (upd s (46 + i) v)) (J.D2 (l.setIfInBounds i true) (upd s (46 + i) v)) (J.D3 (l.setIfInBounds i true) (upd s (46 + i) v))) (hb : Below J.base w0 w') (hw : J.base ≤ w'.heap.size) : Inv J w0 (l.setIfInBounds i true) (upd s (46 + i) v) w' := by
  have hs := (getD_tf hu).1
  have hf := (getD_tf hu).2
  have g := fun k => getD_set l i k hs
  have gn : ∀ k, k ≠ i → (l.setIfInBounds i true).getD k false = l.getD k false := fun k hk => by rw [g, if_neg hk]
  have u : ∀ k, k ≠ 46 + i → upd s (46 + i) v k = s k := fun k hk => upd_ne s v hk
  have n20 : i < 7 → l.getD 20 false = false := fun hi => by
    cases e : l.getD 20 false with
    | false => rfl
    | true => have := h.t20 e i hi; rw [hf] at this; cases this
  have n21 : i < 11 → l.getD 21 false = false := fun hi => by
    cases e : l.getD 21 false with
    | false => rfl
    | true => have := h.t21 e i hi; rw [hf] at this; cases this
  have n22 : l.getD 22 false = false := by
    cases e : l.getD 22 false with
    | false => rfl
    | true => have := h.t22 e i hi; rw [hf] at this; cases this
  have mono : ∀ k, l.getD k false = true → (l.setIfInBounds i true).getD k false = true := fun k hk => by rw [g]; split; rfl; exact hk
  refine ⟨by simp [h.size], fun hl k hk => ?_, fun hl k hk => ?_, fun hl k hk => ?_, fun k v' hk hl => ?_, ?_, ?_, ?_, ?_, ?_, ?_, htri, hb, hw⟩
  · rw [gn 20 (by omega)] at hl; exact mono k (h.t20 hl k hk)
  · rw [gn 21 (by omega)] at hl; exact mono k (h.t21 hl k hk)
  · rw [gn 22 (by omega)] at hl; exact mono k (h.t22 hl k hk)
  · have e : k ≠ i := fun e => by rw [e, ht] at hk; cases hk
    rw [gn k e] at hl
    rw [u _ (by omega)]
    exact h.val k v' hk hl
  · have := h.a6
    rw [u 6 (by omega), gn 20 (by omega)]
    by_cases e : i = 6
    · rw [n20 (by omega)] at this ⊢; exact this
    · rw [u 52 (by omega)]; exact this
  · have := h.a7
    rw [u 7 (by omega), gn 21 (by omega)]
    by_cases e : i = 10
    · rw [n21 (by omega)] at this ⊢; exact this
    · rw [u 56 (by omega)]; exact this
  · have := h.a8
    rw [u 8 (by omega), gn 22 (by omega)]
    by_cases e : i = 19
    · rw [n22] at this ⊢; exact this
    · rw [u 65 (by omega)]; exact this
  · intro e
    rw [g] at e
    split at e
    · rename_i e'; exact mono 5 (h6 e'.symm)
    · exact mono 5 (h.o6 e)
  · intro e
    rw [g] at e
    split at e
    · rename_i e'; exact mono 9 (h10 e'.symm)
    · exact mono 9 (h.o10 e)
  · intro e
    rw [g] at e
    split at e
    · rename_i e'; exact mono 18 (h19 e'.symm)
    · exact mono 18 (h.o19 e)

/-- a result is handed back: i is 20, 21 or 22 -/
theorem Inv.asg {J : Jst} {w0 w : World} {l : Array Bool} {s : Nat → Value} (h : Inv J w0 l s w) (i t : Nat) (hit : (i = 20 ∧ t = 6) ∨ (i = 21 ∧ t = 7) ∨ (i = 22 ∧ t = 8)) (hu : l.getD i true = false) (hall : ∀ k, k < (if i = 20 then 7 else if i = 21 then 11 else 20) → l.getD k false = true) (ht : ∀ k, 20 ≤ k → J.tab k = none) (v : Value) (hv : v = s (if i = 20 then 52 else if i = 21 then 56 else 65)) : Inv J w0 (l.setIfInBounds i true) (upd s t v) w := by
  have hs := (getD_tf hu).1
  have g := fun k => getD_set l i k hs
  have gn : ∀ k, k ≠ i → (l.setIfInBounds i true).getD k false = l.getD k false := fun k hk => by rw [g, if_neg hk]
  have gi : (l.setIfInBounds i true).getD i false = true := by rw [g, if_pos rfl]
  have u : ∀ k, k ≠ t → upd s t v k = s k := fun k hk => upd_ne s v hk
  have i20 : 20 ≤ i ∧ i < 23 ∧ t < 9 ∧ 6 ≤ t := by omega
  refine ⟨by simp [h.size], fun hl k hk => ?_, fun hl k hk => ?_, fun hl k hk => ?_, fun k v' hk hl => ?_, ?_, ?_, ?_, ?_, ?_, ?_, ?_, h.bel, h.bas⟩
  · rw [gn k (by omega)]
    by_cases e : i = 20
    · exact hall k (by rw [if_pos e]; exact hk)
    · rw [gn 20 (fun e' => e e'.symm)] at hl; exact h.t20 hl k hk
  · rw [gn k (by omega)]
    by_cases e : i = 21
    · exact hall k (by rw [if_neg (by omega), if_pos e]; exact hk)
    · rw [gn 21 (fun e' => e e'.symm)] at hl; exact h.t21 hl k hk
  · rw [gn k (by omega)]
    by_cases e : i = 22
    · exact hall k (by rw [if_neg (by omega), if_neg (by omega)]; exact hk)
    · rw [gn 22 (fun e' => e e'.symm)] at hl; exact h.t22 hl k hk
  · have e : k < 20 := by
      rcases Nat.lt_or_ge k 20 with h1 | h1
      · exact h1
      · rw [ht k h1] at hk; cases hk
    rw [gn k (by omega)] at hl
    rw [u _ (by omega)]
    exact h.val k v' hk hl
  · rcases hit with ⟨rfl, rfl⟩ | ⟨rfl, rfl⟩ | ⟨rfl, rfl⟩
    · rw [gi, upd_same, u 52 (by omega), hv]; rfl
    · rw [gn 20 (by omega), u 6 (by omega), u 52 (by omega)]; exact h.a6
    · rw [gn 20 (by omega), u 6 (by omega), u 52 (by omega)]; exact h.a6
  · rcases hit with ⟨rfl, rfl⟩ | ⟨rfl, rfl⟩ | ⟨rfl, rfl⟩
    · rw [gn 21 (by omega), u 7 (by omega), u 56 (by omega)]; exact h.a7
    · rw [gi, upd_same, u 56 (by omega), hv]; rfl
    · rw [gn 21 (by omega), u 7 (by omega), u 56 (by omega)]; exact h.a7
  · rcases hit with ⟨rfl, rfl⟩ | ⟨rfl, rfl⟩ | ⟨rfl, rfl⟩
    · rw [gn 22 (by omega), u 8 (by omega), u 65 (by omega)]; exact h.a8
    · rw [gn 22 (by omega), u 8 (by omega), u 65 (by omega)]; exact h.a8
    · rw [gi, upd_same, u 65 (by omega), hv]; rfl
  · rw [gn 6 (by omega), gn 5 (by omega)]; exact h.o6
  · rw [gn 10 (by omega), gn 9 (by omega)]; exact h.o10
  · rw [gn 19 (by omega), gn 18 (by omega)]; exact h.o19
  · have := h.tri
    unfold Jst.D1 Jst.D2 Jst.D3 at this ⊢
    rw [gn 5 (by omega), gn 6 (by omega), gn 9 (by omega), gn 10 (by omega), gn 18 (by omega), gn 19 (by omega), u 51 (by omega), u 52 (by omega), u 55 (by omega), u 56 (by omega), u 64 (by omega), u 65 (by omega)]
    exact this

theorem Inv.lay1 {J : Jst} {w0 w : World} {l : Array Bool} {s : Nat → Value} (h : Inv J w0 l s w) (ht : J.tab 5 = none) (hu : l.getD 5 true = false) : Inv J w0 (l.setIfInBounds 5 true) (upd s 51 (.slice (some ⟨w.heap.size, 0, none⟩) 1 1)) (w.alloc (.cells #[bv J.x1] 5)) := by
  have hs := (getD_tf hu).1
  have hff : l.getD 6 false = false := by
    cases e : l.getD 6 false with
    | false => rfl
    | true => have := h.o6 e; rw [(getD_tf hu).2] at this; cases this
  have g := fun k => getD_set l 5 k hs
  refine h.chain 5 _ ht (by omega) hu (by omega) (by omega) (by omega) ?_ (h.bel.alloc h.bas _) (by have := h.bas; simp; omega)
  have key := (h.tri.lay hff)
  have e : ∀ v, J.D1 (l.setIfInBounds 5 true) (upd s (46 + (5 : Nat)) v) = { J.D1 l s with bt := true, sb := v } := fun v => by
    unfold Jst.D1; rw [g, g]; simp [upd]
  have e2 : ∀ v, J.D2 (l.setIfInBounds 5 true) (upd s (46 + (5 : Nat)) v) = J.D2 l s := fun v => by
    unfold Jst.D2; rw [g, g]; simp [upd]
  have e3 : ∀ v, J.D3 (l.setIfInBounds 5 true) (upd s (46 + (5 : Nat)) v) = J.D3 l s := fun v => by
    unfold Jst.D3; rw [g, g]; simp [upd]
  rw [e, e2, e3]
  exact key

theorem Inv.app1 {P : Program} (hinfo : (P.info? 5).map (fun i => (i.zero, i.size, i.bytes)) = some (some (.int .u8 0), 1, 1)) {J : Jst} {w0 w : World} {l : Array Bool} {s : Nat → Value} (h : Inv J w0 l s w) (ht : J.tab 6 = none) (hu : l.getD 6 true = false) (hb : l.getD 5 false = true) (t ty : TypeId) (hT : P.underlying t = some (.slice 5)) (hl : J.xs1.length ≤ 140737488355327) :
    ∃ v w', (Builtin.append_ #[t, t] ty #[.slice (some ⟨J.g1, 0, none⟩) J.xs1.length J.c1, s 51]).run P w = .ok v w' ∧ Inv J w0 (l.setIfInBounds 6 true) (upd s 52 v) w' := by
  have hs := (getD_tf hu).1
  have hff := (getD_tf hu).2
  obtain ⟨v, w', hrun, key, hg, hbg⟩ := h.tri.app hinfo hb hff t ty hT hl h.bas
  refine ⟨v, w', hrun, ?_⟩
  have g := fun k => getD_set l 6 k hs
  refine h.chain 6 v ht (by omega) hu (fun _ => by first | exact hb | omega) (fun _ => by first | exact hb | omega) (fun _ => by first | exact hb | omega) ?_ (h.bel.grown hg h.bas (fun k hk => by injection hk with hk; subst hk; exact hbg)) (Nat.le_trans h.bas hg.size)
  have e : ∀ v, J.D1 (l.setIfInBounds 6 true) (upd s (46 + (6 : Nat)) v) = { J.D1 l s with ft := true, sa := v } := fun v => by
    unfold Jst.D1; rw [g, g]; simp [upd]
  have e2 : ∀ v, J.D2 (l.setIfInBounds 6 true) (upd s (46 + (6 : Nat)) v) = J.D2 l s := fun v => by
    unfold Jst.D2; rw [g, g]; simp [upd]
  have e3 : ∀ v, J.D3 (l.setIfInBounds 6 true) (upd s (46 + (6 : Nat)) v) = J.D3 l s := fun v => by
    unfold Jst.D3; rw [g, g]; simp [upd]
  rw [e, e2, e3]
  exact key

theorem Inv.lay2 {J : Jst} {w0 w : World} {l : Array Bool} {s : Nat → Value} (h : Inv J w0 l s w) (ht : J.tab 9 = none) (hu : l.getD 9 true = false) : Inv J w0 (l.setIfInBounds 9 true) (upd s 55 (.slice (some ⟨w.heap.size, 0, none⟩) 1 1)) (w.alloc (.cells #[bv J.x2] 5)) := by
  have hs := (getD_tf hu).1
  have hff : l.getD 10 false = false := by
    cases e : l.getD 10 false with
    | false => rfl
    | true => have := h.o10 e; rw [(getD_tf hu).2] at this; cases this
  have g := fun k => getD_set l 9 k hs
  refine h.chain 9 _ ht (by omega) hu (by omega) (by omega) (by omega) ?_ (h.bel.alloc h.bas _) (by have := h.bas; simp; omega)
  have key := (h.tri.s12.lay hff).s12
  have e : ∀ v, J.D2 (l.setIfInBounds 9 true) (upd s (46 + (9 : Nat)) v) = { J.D2 l s with bt := true, sb := v } := fun v => by
    unfold Jst.D2; rw [g, g]; simp [upd]
  have e1 : ∀ v, J.D1 (l.setIfInBounds 9 true) (upd s (46 + (9 : Nat)) v) = J.D1 l s := fun v => by
    unfold Jst.D1; rw [g, g]; simp [upd]
  have e3 : ∀ v, J.D3 (l.setIfInBounds 9 true) (upd s (46 + (9 : Nat)) v) = J.D3 l s := fun v => by
    unfold Jst.D3; rw [g, g]; simp [upd]
  rw [e, e1, e3]
  exact key

theorem Inv.app2 {P : Program} (hinfo : (P.info? 5).map (fun i => (i.zero, i.size, i.bytes)) = some (some (.int .u8 0), 1, 1)) {J : Jst} {w0 w : World} {l : Array Bool} {s : Nat → Value} (h : Inv J w0 l s w) (ht : J.tab 10 = none) (hu : l.getD 10 true = false) (hb : l.getD 9 false = true) (t ty : TypeId) (hT : P.underlying t = some (.slice 5)) (hl : J.xs2.length ≤ 140737488355327) :
    ∃ v w', (Builtin.append_ #[t, t] ty #[.slice (some ⟨J.g2, 0, none⟩) J.xs2.length J.c2, s 55]).run P w = .ok v w' ∧ Inv J w0 (l.setIfInBounds 10 true) (upd s 56 v) w' := by
  have hs := (getD_tf hu).1
  have hff := (getD_tf hu).2
  obtain ⟨v, w', hrun, key, hg, hbg⟩ := h.tri.s12.app hinfo hb hff t ty hT hl h.bas
  refine ⟨v, w', hrun, ?_⟩
  have g := fun k => getD_set l 10 k hs
  refine h.chain 10 v ht (by omega) hu (fun _ => by first | exact hb | omega) (fun _ => by first | exact hb | omega) (fun _ => by first | exact hb | omega) ?_ (h.bel.grown hg h.bas (fun k hk => by injection hk with hk; subst hk; exact hbg)) (Nat.le_trans h.bas hg.size)
  have e : ∀ v, J.D2 (l.setIfInBounds 10 true) (upd s (46 + (10 : Nat)) v) = { J.D2 l s with ft := true, sa := v } := fun v => by
    unfold Jst.D2; rw [g, g]; simp [upd]
  have e1 : ∀ v, J.D1 (l.setIfInBounds 10 true) (upd s (46 + (10 : Nat)) v) = J.D1 l s := fun v => by
    unfold Jst.D1; rw [g, g]; simp [upd]
  have e3 : ∀ v, J.D3 (l.setIfInBounds 10 true) (upd s (46 + (10 : Nat)) v) = J.D3 l s := fun v => by
    unfold Jst.D3; rw [g, g]; simp [upd]
  rw [e, e1, e3]
  exact key.s12

theorem Inv.lay3 {J : Jst} {w0 w : World} {l : Array Bool} {s : Nat → Value} (h : Inv J w0 l s w) (ht : J.tab 18 = none) (hu : l.getD 18 true = false) : Inv J w0 (l.setIfInBounds 18 true) (upd s 64 (.slice (some ⟨w.heap.size, 0, none⟩) 1 1)) (w.alloc (.cells #[bv J.x3] 5)) := by
  have hs := (getD_tf hu).1
  have hff : l.getD 19 false = false := by
    cases e : l.getD 19 false with
    | false => rfl
    | true => have := h.o19 e; rw [(getD_tf hu).2] at this; cases this
  have g := fun k => getD_set l 18 k hs
  refine h.chain 18 _ ht (by omega) hu (by omega) (by omega) (by omega) ?_ (h.bel.alloc h.bas _) (by have := h.bas; simp; omega)
  have key := (h.tri.s13.lay hff).s13
  have e : ∀ v, J.D3 (l.setIfInBounds 18 true) (upd s (46 + (18 : Nat)) v) = { J.D3 l s with bt := true, sb := v } := fun v => by
    unfold Jst.D3; rw [g, g]; simp [upd]
  have e1 : ∀ v, J.D1 (l.setIfInBounds 18 true) (upd s (46 + (18 : Nat)) v) = J.D1 l s := fun v => by
    unfold Jst.D1; rw [g, g]; simp [upd]
  have e2 : ∀ v, J.D2 (l.setIfInBounds 18 true) (upd s (46 + (18 : Nat)) v) = J.D2 l s := fun v => by
    unfold Jst.D2; rw [g, g]; simp [upd]
  rw [e, e1, e2]
  exact key

theorem Inv.app3 {P : Program} (hinfo : (P.info? 5).map (fun i => (i.zero, i.size, i.bytes)) = some (some (.int .u8 0), 1, 1)) {J : Jst} {w0 w : World} {l : Array Bool} {s : Nat → Value} (h : Inv J w0 l s w) (ht : J.tab 19 = none) (hu : l.getD 19 true = false) (hb : l.getD 18 false = true) (t ty : TypeId) (hT : P.underlying t = some (.slice 5)) (hl : J.xs3.length ≤ 140737488355327) :
    ∃ v w', (Builtin.append_ #[t, t] ty #[.slice (some ⟨J.g3, 0, none⟩) J.xs3.length J.c3, s 64]).run P w = .ok v w' ∧ Inv J w0 (l.setIfInBounds 19 true) (upd s 65 v) w' := by
  have hs := (getD_tf hu).1
  have hff := (getD_tf hu).2
  obtain ⟨v, w', hrun, key, hg, hbg⟩ := h.tri.s13.app hinfo hb hff t ty hT hl h.bas
  refine ⟨v, w', hrun, ?_⟩
  have g := fun k => getD_set l 19 k hs
  refine h.chain 19 v ht (by omega) hu (fun _ => by first | exact hb | omega) (fun _ => by first | exact hb | omega) (fun _ => by first | exact hb | omega) ?_ (h.bel.grown hg h.bas (fun k hk => by injection hk with hk; subst hk; exact hbg)) (Nat.le_trans h.bas hg.size)
  have e : ∀ v, J.D3 (l.setIfInBounds 19 true) (upd s (46 + (19 : Nat)) v) = { J.D3 l s with ft := true, sa := v } := fun v => by
    unfold Jst.D3; rw [g, g]; simp [upd]
  have e1 : ∀ v, J.D1 (l.setIfInBounds 19 true) (upd s (46 + (19 : Nat)) v) = J.D1 l s := fun v => by
    unfold Jst.D1; rw [g, g]; simp [upd]
  have e2 : ∀ v, J.D2 (l.setIfInBounds 19 true) (upd s (46 + (19 : Nat)) v) = J.D2 l s := fun v => by
    unfold Jst.D2; rw [g, g]; simp [upd]
  rw [e, e1, e2]
  exact key.s13

theorem wp_region_any' {P : Program} {ops : Array Oper} {Q : Exit → Act → World → Prop} {id : Nat} {a : Act} {w : World} (hm : P.follows .mixedOrders = true)
    (h : ∀ (ops' : Array Oper) (a0 : Act), ops' = ops → a0 = a → wpAny P .any ops' Q ops'.size (Array.replicate ops'.size false) a0 w.drew) : (Code.region id ops true).wp P Q a w :=
  wp_region_any hm (h ops a rfl rfl)

end Go.Proofs.Ytciadiaodceijaa

/-
  A region that draws its order, met by an invariant over the operations that have come up: words and laws. No program here. No condition.
-/
import Derived.Test.YtciadiaodceijaaBase
import Derived.Orders
namespace Go.Proofs.Ytciadiaodceijaa
open Go.RowKit

/-- all come up, if each waits for earlier ones alone -/
theorem ready_nil_all {md : Region.Mode} {ops : Array Oper} (hm : ∀ (i : Nat) (o : Oper), ops[i]? = some o → ∀ e ∈ o.after, e.on < i) {l : Array Bool} (hl : l.size = ops.size) (h : Region.ready md ops l = []) : ∀ i, i < ops.size → l.getD i false = true := by
  intro i
  induction i using Nat.strongRecOn with
  | _ i ih =>
    intro hi
    cases hb : l.getD i false with
    | true => rfl
    | false =>
      exfalso
      have hmem : i ∈ Region.ready md ops l := by
        unfold Region.ready
        rw [List.mem_filter]
        refine ⟨List.mem_range.2 hi, ?_⟩
        have h1 : l.getD i true = false := by
          have hil : i < l.size := by omega
          simp only [Array.getD_eq_getD_getElem?, Array.getElem?_eq_getElem hil, Option.getD_some] at hb ⊢
          exact hb
        rw [h1, Array.getElem?_eq_getElem hi]
        simp only [Bool.not_false, Option.map_some, Option.getD_some, Bool.true_and]
        rw [Array.all_eq_true_iff_forall_mem]
        intro e he
        have := ih e.on (hm i _ (Array.getElem?_eq_getElem hi) e he) (by have := hm i _ (Array.getElem?_eq_getElem hi) e he; omega)
        rw [this]
        simp
      rw [h] at hmem
      cases hmem

def left (l : Array Bool) : Nat := (l.toList.filter (! ·)).length

theorem left_set {l : Array Bool} {i : Nat} (hi : i < l.size) (h : l.getD i true = false) : left (l.setIfInBounds i true) + 1 = left l := by
  unfold left
  rw [Array.toList_setIfInBounds]
  have hil : i < l.toList.length := by simpa using hi
  have hb : l.toList[i] = false := by
    rw [Array.getD_eq_getD_getElem?, Array.getElem?_eq_getElem hi, Option.getD_some] at h
    simpa using h
  generalize l.toList = L at *
  clear h hi
  induction L generalizing i with
  | nil => simp at hil
  | cons x r ih =>
    cases i with
    | zero => simp at hb; subst hb; simp
    | succ i =>
      have := ih (i := i) (by simpa using hil) (by simpa using hb)
      rw [List.set_cons_succ]
      simp only [List.filter_cons]
      split <;> (try simp only [List.length_cons]) <;> omega

theorem wpAny_inv {P : Program} {md : Region.Mode} {ops : Array Oper} {Q : Exit → Act → World → Prop} (I : Array Bool → Act → World → Prop) (hs : ∀ l a w, I l a w → l.size = ops.size) (hm : ∀ (i : Nat) (o : Oper), ops[i]? = some o → ∀ e ∈ o.after, e.on < i)
    (hd : ∀ l a w, I l a w → (∀ i, i < ops.size → l.getD i false = true) → Q .normal a w)
    (hstep : ∀ l a w, I l a w → ∀ i, i ∈ Region.ready md ops l → wpOp P ops Q i (I (l.setIfInBounds i true)) a w) :
    ∀ fuel l a w, I l a w → left l ≤ fuel → wpAny P md ops Q fuel l a w := by
  have hrl : ∀ {l i}, i ∈ Region.ready md ops l → i < ops.size ∧ l.getD i true = false := by
    intro l i h
    unfold Region.ready at h
    rw [List.mem_filter] at h
    refine ⟨List.mem_range.1 h.1, ?_⟩
    have := h.2
    simp only [Bool.and_eq_true, Bool.not_eq_true'] at this
    exact this.1
  intro fuel
  induction fuel with
  | zero =>
    intro l a w hI hf
    have hr : Region.ready md ops l = [] := by
      cases hr : Region.ready md ops l with
      | nil => rfl
      | cons i r =>
        exfalso
        have := hrl (l := l) (i := i) (by rw [hr]; simp)
        have := left_set (l := l) (i := i) (by rw [hs l a w hI]; exact this.1) this.2
        omega
    exact ⟨hr, hd l a w hI (ready_nil_all hm (hs l a w hI) hr)⟩
  | succ fuel ih =>
    intro l a w hI hf
    refine ⟨fun hr => hd l a w hI (ready_nil_all hm (hs l a w hI) hr), fun i hi => ?_⟩
    refine wpOp_mono (fun a' w' hI' => ih _ a' w' hI' ?_) (hstep l a w hI i hi)
    have := hrl hi
    have := left_set (l := l) (i := i) (by rw [hs l a w hI]; exact this.1) this.2
    omega

/-- a frame with slots written anew -/
def puts (a : Act) : List Nat → (Nat → Value) → Act
  | [], _ => a
  | t :: r, s => puts (a.put (some t) (s t)) r s
def upd (s : Nat → Value) (t : Nat) (v : Value) : Nat → Value := fun k => if k = t then v else s k
theorem upd_same (s : Nat → Value) (t : Nat) (v : Value) : upd s t v t = v := by simp [upd]
theorem upd_ne (s : Nat → Value) {t k : Nat} (v : Value) (h : k ≠ t) : upd s t v k = s k := by simp [upd, h]

theorem puts_out {ds : List Nat} {s : Nat → Value} {t : Nat} : ∀ (a : Act), t ∉ ds → (puts a ds s).eval (.tmp t) = a.eval (.tmp t) := by
  induction ds with
  | nil => intro a _; rfl
  | cons d r ih =>
    intro a h
    rw [puts, ih _ (fun h' => h (List.mem_cons_of_mem _ h')), Act.eval_put]
    intro d' e e'
    injection e with e
    injection e' with e'
    exact h (by rw [e', ← e]; exact List.mem_cons_self ..)
theorem put_size (a : Act) (t : Nat) (v : Value) : (a.put (some t) v).tmps.size = a.tmps.size := by simp [Act.put]
theorem puts_in {ds : List Nat} {s : Nat → Value} {t : Nat} : ∀ (a : Act), t ∈ ds → ds.Nodup → t < a.tmps.size → (puts a ds s).eval (.tmp t) = s t := by
  induction ds with
  | nil => intro a h; cases h
  | cons d r ih =>
    intro a h hn ht
    rw [puts]
    rw [List.nodup_cons] at hn
    by_cases e : t = d
    · subst e
      rw [puts_out _ hn.1]
      simp [Act.eval, Act.put, ht]
    · exact ih _ (by simpa [e] using h) hn.2 (by rw [put_size]; exact ht)
theorem puts_congr {ds : List Nat} {s s' : Nat → Value} : ∀ (a : Act), (∀ t ∈ ds, s t = s' t) → puts a ds s = puts a ds s' := by
  induction ds with
  | nil => intro a _; rfl
  | cons d r ih =>
    intro a h
    rw [puts, puts, h d (by simp)]
    exact ih _ (fun t ht => h t (by simp [ht]))
theorem put_puts {ds : List Nat} {s : Nat → Value} {t : Nat} {v : Value} : ∀ (a : Act), t ∉ ds → (puts a ds s).put (some t) v = puts (a.put (some t) v) ds s := by
  induction ds with
  | nil => intro a _; rfl
  | cons d r ih =>
    intro a h
    have hne : d ≠ t := fun e => h (by rw [e]; simp)
    rw [puts, ih _ (fun h' => h (List.mem_cons_of_mem _ h')), puts, Act.put_comm a (x := some d) (y := some t) (s d) v (fun d' e e' => by injection e with e; injection e' with e'; exact hne (by rw [e, ← e']))]
theorem put_put (a : Act) (t : Nat) (u v : Value) : (a.put (some t) u).put (some t) v = a.put (some t) v := by
  simp [Act.put, Array.setIfInBounds_setIfInBounds]
theorem puts_put {ds : List Nat} {s : Nat → Value} {t : Nat} {v : Value} : ∀ (a : Act), t ∈ ds → ds.Nodup → (puts a ds s).put (some t) v = puts a ds (upd s t v) := by
  induction ds with
  | nil => intro a h; cases h
  | cons d r ih =>
    intro a h hn
    rw [List.nodup_cons] at hn
    rw [puts, puts]
    by_cases e : t = d
    · subst e
      rw [put_puts _ hn.1, put_put, upd_same]
      exact puts_congr _ (fun k hk => (upd_ne s v (fun e : k = t => hn.1 (by rw [← e]; exact hk))).symm)
    · rw [ih _ (by simpa [e] using h) hn.2, upd_ne s v (fun e' => e e'.symm)]
theorem puts_id {ds : List Nat} : ∀ (a : Act), puts a ds (fun t => a.eval (.tmp t)) = a := by
  have key : ∀ (ds : List Nat) (a : Act) (s : Nat → Value), (∀ t ∈ ds, s t = a.eval (.tmp t)) → puts a ds s = a := by
    intro ds
    induction ds with
    | nil => intro a s _; rfl
    | cons d r ih =>
      intro a s h
      have e : a.put (some d) (s d) = a := by
        rw [h d (by simp)]
        unfold Act.put Act.eval
        simp only
        congr 1
        apply Array.ext_getElem?
        intro k
        rw [Array.getElem?_setIfInBounds]
        split
        · subst_vars
          split
          · rename_i hk; simp [hk]
          · rename_i hk; rw [Array.getElem?_eq_none (by omega)]
        · rfl
      rw [puts, e]
      exact ih a s (fun t ht => h t (by simp [ht]))
  intro a
  exact key ds a _ (fun _ _ => rfl)

end Go.Proofs.Ytciadiaodceijaa

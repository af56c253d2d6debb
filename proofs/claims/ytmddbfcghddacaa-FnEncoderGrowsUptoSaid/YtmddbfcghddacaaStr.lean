/-
  impl.EncodeStream: the text behind each piece, and that of all. Condition: the lengths' bounds.
-/
import Derived.Test.YtmddbfcghddacaaBufW
import Derived.Test.YtmddbfcghddacaaEncP
import Derived.Deep.RegionLaw
namespace Go.Proofs.Ytmddbfcghddacaa
open Go.RowKit
set_option linter.unusedVariables false

theorem step_append_one {P : Program} {T : TypeId} {z : Value} {k : Nat} (hinfo : (P.info? T).map (fun i => (i.zero, i.size, i.bytes)) = some (some z, 1, k)) (hz : z.cells.size = 1) (hk : k ≤ 24) {w : World} {ops : Array Oper} {o : Oper} {a : Act} {K : Act → World → Prop} {Q : Exit → Act → World → Prop} {E : Prop} (hgd : o.guard = none) (s x : Operand) (t : TypeId)
    (ho : o.op = .call { callee := .builtin .append, args := #[s, x], argTypes := #[t, t] }) (ht : P.underlying t = some (.slice T))
    (base g c : Nat) (vs : List Value) (n : Nat) (hs : a.eval s = .slice (some ⟨g, 0, none⟩) n c) (hn : n = vs.length) (hown : OwnV T w base g c vs)
    (b d : Nat) (v : Value) (hx : a.eval x = .slice (some ⟨b, 0, none⟩) 1 d) (hv : w.cell? ⟨b, 0, none⟩ = some v) (h1 : v.oneCell' = true) (hl : vs.length ≤ 2000000) (hbase : base ≤ w.heap.size)
    (h : ∀ g' c' w', OwnV T w' base g' c' (vs ++ [v]) → w.grownBy w' (some g) → (g' = g ∨ g' = w.heap.size) → K (a.put o.dst (.slice (some ⟨g', 0, none⟩) (vs.length + 1) c')) w') :
    if Region.wanted o (yielded ops a.tmps) = true then Oper.wp P o a w K Q else E := by
  have hw : Region.wanted o (yielded ops a.tmps) = true := by simp [Region.wanted, hgd]
  rw [if_pos hw]
  subst hn
  obtain ⟨g', c', w', hrun, h2, h3, h4⟩ := run_append_one hinfo hz hk w t o.type ht base g c vs hown b d v hv h1 hl hbase
  unfold Oper.wp execOp
  simp only [ho, resolve, invoke, builtin, Sem.run_bind, Sem.run_pure, Result.andThen_ok, List.map_toArray, List.map_cons, List.map_nil, hs, hx, hrun]
  exact h g' c' w' h2 h3 h4

theorem step_call1 {P : Program} {ops : Array Oper} {o : Oper} {a : Act} {w : World} {K : Act → World → Prop} {Q : Exit → Act → World → Prop} {E : Prop} (hgd : o.guard = none) (f : FuncId) (x : Operand) (ts : Array TypeId)
    (ho : o.op = .call { callee := .value (.func f), args := #[x], argTypes := ts }) (hent : ∀ args w, (callFunc f args).run P w = .ok (.enter f args) w) (v : Value) (hx : a.eval x = v) (Qc : Ending → World → Prop) (hc : Calls P f #[v] w Qc)
    (hK : ∀ e w', Qc e w' → ∃ u, e = .returned u ∧ K (a.put o.dst u) w') : if Region.wanted o (yielded ops a.tmps) = true then Oper.wp P o a w K Q else E := by
  have hw : Region.wanted o (yielded ops a.tmps) = true := by simp [Region.wanted, hgd]
  rw [if_pos hw]
  have hf : a.eval (.func f) = .func (.func f) #[] #[] := rfl
  unfold Oper.wp execOp
  simp [ho, resolve, invoke, Deferred.ofValue, hf, hx, hent]
  rw [Oper.upon_enter]
  refine hc.mono fun e w' h => ?_
  obtain ⟨u, rfl, hk⟩ := hK e w' h
  exact hk

/-- the blocks of the rows that have been collected -/
def PB (vs : List Value) (k : Nat) : Prop := ∃ (i n c : Nat), vs[i]? = some (.slice (some ⟨k, 0, none⟩) n c)
theorem PB.snoc {vs : List Value} {k g n c : Nat} (h : PB (vs ++ [.slice (some ⟨g, 0, none⟩) n c]) k) : PB vs k ∨ k = g := by
  obtain ⟨i, n', c', h⟩ := h
  by_cases hi : i < vs.length
  · rw [List.getElem?_append_left hi] at h; exact .inl ⟨i, n', c', h⟩
  · rw [List.getElem?_append_right (by omega)] at h
    have hl := (List.getElem?_eq_some_iff.1 h).1
    rw [List.length_singleton] at hl
    have e : i - vs.length = 0 := by omega
    rw [e] at h
    simp at h
    exact .inr h.1.symm
theorem PB.old {vs : List Value} {k : Nat} {v : Value} (h : PB vs k) : PB (vs ++ [v]) k := by
  obtain ⟨i, n, c, h⟩ := h
  exact ⟨i, n, c, by rw [List.getElem?_append_left (List.getElem?_eq_some_iff.1 h).1]; exact h⟩
theorem Pieces.pb {w : World} {base : Nat} {vs : List Value} {ps : List (List UInt8)} (h : Pieces w base vs ps) {k : Nat} (hk : PB vs k) : ∃ cs, w.heap[k]? = some (.cells cs 5 (0, 0)) := by
  obtain ⟨i, n, c, hk⟩ := hk
  have hi := (List.getElem?_eq_some_iff.1 hk).1
  obtain ⟨gi, di, cs, e, _, hg, _⟩ := h.2 i _ (ps[i]'(by rw [← h.1]; exact hi)) hk (List.getElem?_eq_getElem _)
  injection e with e
  injection e with e
  injection e with e
  subst e
  exact ⟨cs, hg⟩
theorem Pieces.kept {w w' : World} {base : Nat} {vs : List Value} {ps : List (List UInt8)} (h : Pieces w base vs ps) (hk : ∀ k, PB vs k → w'.heap[k]? = w.heap[k]?) : Pieces w' base vs ps := by
  refine ⟨h.1, fun i v p h1 h2 => ?_⟩
  obtain ⟨gi, di, cs, rfl, r1, r2, r3⟩ := h.2 i v p h1 h2
  exact ⟨gi, di, cs, rfl, r1, (hk gi ⟨i, _, _, h1⟩).trans r2, r3⟩

structure StE' (b bo : Nat) (w : World) (M : Nat → Prop) (txt : List UInt8) (rows : List (List UInt8)) (go : Option Nat) (g d : Nat) (vs : List Value) : Prop where
  buf : Buf w b go txt
  out : w.heap[bo]? = some (.cells #[.slice (some ⟨g, 0, none⟩) vs.length d] 24 (0, 0))
  own : OwnV 22 w 0 g d vs
  pcs : Pieces w 0 vs rows
  apart : ∀ gr, go = some gr → ¬ PB vs gr
  mine : ∀ k, M k ↔ (k = b ∨ go = some k ∨ k = bo ∨ k = g ∨ PB vs k)

def StE (b bo : Nat) (w : World) (M : Nat → Prop) (txt : List UInt8) (rows : List (List UInt8)) : Prop := ∃ go g d vs, StE' b bo w M txt rows go g d vs

theorem Buf.tag {w : World} {b : Nat} {go : Option Nat} {txt : List UInt8} (h : Buf w b go txt) : (∃ cs, w.heap[b]? = some (.cells cs 34 (0, 0))) ∧ ∀ g, go = some g → ∃ cs, w.heap[g]? = some (.cells cs 5 (0, 0)) := by
  obtain ⟨lr, ⟨e, _, h⟩ | ⟨g, cap, cur, e, _, h1, h2, _⟩⟩ := h
  · exact ⟨⟨_, h⟩, fun g hg => by rw [e] at hg; cases hg⟩
  · exact ⟨⟨_, h1⟩, fun g' hg => by rw [e] at hg; injection hg with hg; subst hg; exact ⟨_, h2⟩⟩
theorem tag_ne {w : World} {i j : Nat} {cs cs' : Array Value} {T T' : TypeId} (h : w.heap[i]? = some (.cells cs T (0, 0))) (h' : w.heap[j]? = some (.cells cs' T' (0, 0))) (hT : T ≠ T') : i ≠ j := by
  rintro rfl
  rw [h] at h'
  injection h' with h'
  injection h' with _ h'
  exact hT h'

theorem StE'.apt {b bo : Nat} {w : World} {M : Nat → Prop} {txt : List UInt8} {rows : List (List UInt8)} {go : Option Nat} {g d : Nat} {vs : List Value} (h : StE' b bo w M txt rows go g d vs) :
    bo ≠ b ∧ g ≠ b ∧ bo ≠ g ∧ go ≠ some bo ∧ go ≠ some g ∧ go ≠ some b ∧ (∀ k, PB vs k → k ≠ b ∧ k ≠ bo ∧ k ≠ g ∧ go ≠ some k) := by
  obtain ⟨⟨c1, t1⟩, t2⟩ := h.buf.tag
  obtain ⟨c3, t3⟩ := h.own.block
  refine ⟨tag_ne h.out t1 (by decide), tag_ne t3 t1 (by decide), tag_ne h.out t3 (by decide), fun e => ?_, fun e => ?_, fun e => ?_, fun k hk => ?_⟩
  · obtain ⟨c, t⟩ := t2 _ e; exact tag_ne t h.out (by decide) rfl
  · obtain ⟨c, t⟩ := t2 _ e; exact tag_ne t t3 (by decide) rfl
  · obtain ⟨c, t⟩ := t2 _ e; exact tag_ne t t1 (by decide) rfl
  · obtain ⟨c, t⟩ := h.pcs.pb hk
    exact ⟨tag_ne t t1 (by decide), tag_ne t h.out (by decide), tag_ne t t3 (by decide), fun e => h.apart k e hk⟩

theorem OwnV.kept {T : TypeId} {w w' : World} {base g c : Nat} {vs : List Value} (h : OwnV T w base g c vs) (hk : w'.heap[g]? = w.heap[g]?) : OwnV T w' base g c vs := by
  refine ⟨h.1, ?_⟩
  rcases h.2 with ⟨e, h2⟩ | ⟨g', c', cur, e, hb', hh, hr⟩
  · exact .inl ⟨e, h2⟩
  · have e' := e
    injection e' with e1
    injection e1 with e1
    injection e1 with e1
    subst e1
    exact .inr ⟨g, c', cur, e, hb', hk.trans hh, hr⟩

theorem StE'.same {b bo : Nat} {w w' : World} {M : Nat → Prop} {txt : List UInt8} {rows : List (List UInt8)} {go : Option Nat} {g d : Nat} {vs : List Value} (h : StE' b bo w M txt rows go g d vs) (hk : ∀ k, M k → w'.heap[k]? = w.heap[k]?) : StE' b bo w' M txt rows go g d vs :=
  ⟨h.buf.keep (hk b ((h.mine b).2 (.inl rfl))) (fun gr e => hk gr ((h.mine gr).2 (.inr (.inl e)))), (hk bo ((h.mine bo).2 (.inr (.inr (.inl rfl))))).trans h.out, h.own.kept (hk g ((h.mine g).2 (.inr (.inr (.inr (.inl rfl)))))),
    h.pcs.kept (fun k hp => hk k ((h.mine k).2 (.inr (.inr (.inr (.inr hp)))))), h.apart, h.mine⟩

theorem nil_bufw (k : Nat) (a : Addr) (w : World) : (nilAhead (k + 1) 36 (.pointer (some a)) "Write").run Try.prog w = .ok (some false) w := by kernel_rfl
theorem m_bufw (k : Nat) (a : Addr) (w : World) : (method (k + 1) 36 (.pointer (some a)) "Write").run Try.prog w = .ok (35, .pointer (some a)) w := by kernel_rfl
theorem ent_bufw (args : Array Value) (w : World) : (callFunc 35 args).run Try.prog w = .ok (.enter 35 args) w := enters_of Try.func35 (by kernel_rfl) rfl args w
theorem ent_beh (args : Array Value) (w : World) : (callFunc 11 args).run Try.prog w = .ok (.enter 11 args) w := enters_of Try.func11 (by kernel_rfl) rfl args w

theorem ent_bytes (args : Array Value) (w : World) : (callFunc 13 args).run Try.prog w = .ok (.enter 13 args) w := enters_of Try.func13 (by kernel_rfl) rfl args w
theorem ent_own (args : Array Value) (w : World) : (callFunc 12 args).run Try.prog w = .ok (.enter 12 args) w := enters_of Try.func12 (by kernel_rfl) rfl args w

theorem wtr_buf (b bo : Nat) : Wtr Try.prog 36 ⟨b, 0, none⟩ 35 (StE b bo) := {
  nil := fun k w => nil_bufw k _ w
  met := fun k w => m_bufw k _ w
  ent := ent_bufw
  put := by
    intro w M txt rows ge o n c chunk hS hM hge hn hn0 hnc hc hcell hl
    obtain ⟨go, g, d, vs, h⟩ := hS
    obtain ⟨a1, a2, a3, a4, a5, a6, a7⟩ := h.apt
    have hgb : ge ≠ b := fun e => hM ((h.mine ge).2 (.inl e))
    have hgo : go ≠ some ge := fun e => hM ((h.mine ge).2 (.inr (.inl e)))
    refine (buf_write b ge o n c go txt chunk w h.buf hgb hgo hge hn hn0 hnc hc hcell hl).mono ?_
    rintro e w' ⟨rfl, ⟨go', hB, hF, hg'⟩⟩
    have bl : ∀ k, k < w.heap.size → k ≠ b → go ≠ some k → w'.heap[k]? = w.heap[k]? := fun k hk h1 h2 => hF.block k hk (fun h => h.elim h1 h2)
    have hbo := heap_lt h.out
    obtain ⟨cg, hcg⟩ := h.own.block
    refine ⟨rfl, fun k => k = b ∨ go' = some k ∨ k = bo ∨ k = g ∨ PB vs k, ⟨go', g, d, vs, hB, (bl bo hbo a1 a4).trans h.out, h.own.kept (bl g (heap_lt hcg) a2 a5), h.pcs.kept (fun k hk => ?_), ?_, fun _ => Iff.rfl⟩, ?_, ?_⟩
    · obtain ⟨cs, hcs⟩ := h.pcs.pb hk
      exact bl k (heap_lt hcs) (a7 k hk).1 (a7 k hk).2.2.2
    · intro gr e hp
      rcases hg' with e' | ⟨g2, e', h2⟩
      · rw [e'] at e; exact (a7 gr hp).2.2.2 e
      · rw [e'] at e; injection e with e; subst e
        obtain ⟨cs, hcs⟩ := h.pcs.pb hp
        have := heap_lt hcs
        omega
    · exact hF.mono (fun k _ hk => (h.mine k).2 (hk.elim .inl (fun e => .inr (.inl e))))
    · intro k hk hm
      refine (h.mine k).2 ?_
      rcases hm with e | e | e
      · exact .inl e
      · rcases hg' with e' | ⟨g2, e', h2⟩
        · rw [e'] at e; exact .inr (.inl e)
        · rw [e'] at e; injection e with e; omega
      · exact .inr (.inr e)
  same := by
    rintro w w' M txt rows ⟨go, g, d, vs, h⟩ hk
    exact ⟨go, g, d, vs, h.same hk⟩
  lt := by
    rintro w M txt rows ⟨go, g, d, vs, h⟩ k hk
    rcases (h.mine k).1 hk with e | e | e | e | e
    · rw [e]; exact h.buf.lt.1
    · exact h.buf.lt.2 k e
    · rw [e]; exact heap_lt h.out
    · rw [e]; exact h.own.lt'.2
    · obtain ⟨cs, hcs⟩ := h.pcs.pb e; exact heap_lt hcs }

theorem OwnV.al {T : TypeId} {w : World} {base g c : Nat} {vs : List Value} (h : OwnV T w base g c vs) (o : Obj) : OwnV T (w.alloc o) base g c vs := h.below ((Below.refl _ _).alloc (Nat.le_refl _) _)

theorem beh_fin {b bo : Nat} {w w3 w5 : World} {M : Nat → Prop} {txt : List UInt8} {rows : List (List UInt8)} {go : Option Nat} {g d g3 d3 g5 c5 : Nat} {vs : List Value} {o : Obj} (h : StE' b bo w M txt rows go g d vs)
    (o3 : Own w3 w.heap.size g3 d3 txt) (b3 : Below w.heap.size w w3) (h5 : OwnV 22 w5 0 g5 c5 (vs ++ [.slice (some ⟨g3, 0, none⟩) txt.length d3])) (hg5 : (w3.alloc o).grownBy w5 (some g)) (hat : g5 = g ∨ g5 = (w3.alloc o).heap.size) :
    PPost w (w5.setCell ⟨bo, 0, none⟩ (.slice (some ⟨g5, 0, none⟩) (vs.length + 1) c5)) M (StE b bo) txt (rows ++ [txt]) := by
  obtain ⟨a1, a2, a3, a4, a5, a6, a7⟩ := h.apt
  have hbo := heap_lt h.out
  have hgl := h.own.lt'.2
  have hg3 := o3.lt'
  have s3 := b3.size
  have hsz : (w3.alloc o).heap.size = w3.heap.size + 1 := by simp
  have s5 := hg5.size
  have bl3 : ∀ k, k < w3.heap.size → k ≠ g → w5.heap[k]? = w3.heap[k]? := fun k hk hkg =>
    (hg5.block k (by omega) (fun e => hkg (by injection e))).trans (Below.heap_alloc _ _ _ hk)
  have bl : ∀ k, k < w.heap.size → k ≠ g → k ≠ bo → (w5.setCell ⟨bo, 0, none⟩ (.slice (some ⟨g5, 0, none⟩) (vs.length + 1) c5)).heap[k]? = w.heap[k]? := fun k hk hkg hkb =>
    (Below.heap_setCell _ _ _ _ hkb).trans ((bl3 k (by omega) hkg).trans (b3.block k hk))
  have h5o : w5.heap[bo]? = w.heap[bo]? := (bl3 bo (by omega) a3).trans (b3.block bo hbo)
  have hg5o : g5 ≠ bo := by rcases hat with e | e <;> omega
  refine ⟨fun k => k = b ∨ go = some k ∨ k = bo ∨ k = g5 ∨ PB (vs ++ [.slice (some ⟨g3, 0, none⟩) txt.length d3]) k, ⟨go, g5, c5, vs ++ [.slice (some ⟨g3, 0, none⟩) txt.length d3], ?_, ?_, ?_, ?_, ?_, fun _ => Iff.rfl⟩, ?_, ?_⟩
  · exact h.buf.keep (bl b h.buf.lt.1 a2.symm a1.symm) (fun gr e => bl gr (h.buf.lt.2 gr e) (fun e2 => a5 (e2 ▸ e)) (fun e2 => a4 (e2 ▸ e)))
  · rw [List.length_append, List.length_singleton]
    exact heap_set_same w5 bo 0 _ _ _ (h5o.trans h.out)
  · exact h5.kept (Below.heap_setCell _ _ _ _ hg5o)
  · refine Pieces.snoc (h.pcs.kept (fun k hk => ?_)) ?_
    · obtain ⟨cs, hcs⟩ := h.pcs.pb hk
      exact bl k (heap_lt hcs) (a7 k hk).2.2.1 (a7 k hk).2.1
    · have hp := o3.piece
      obtain ⟨gi, di, cs, e, r1, r2, r3⟩ := hp
      injection e with e1 e2 e3
      injection e1 with e1
      injection e1 with e1
      subst e1 e3
      refine ⟨g3, d3, cs, rfl, Nat.zero_le _, ?_, r3⟩
      exact (Below.heap_setCell _ _ _ _ (by show g3 ≠ bo; omega)).trans ((bl3 g3 hg3.2 (by omega)).trans r2)
  · intro gr e hp
    rcases hp.snoc with hp | hp
    · exact h.apart gr e hp
    · have := h.buf.lt.2 gr e; omega
  · refine ⟨hg5.os.trans b3.os, hg5.tape.trans b3.tape, hg5.output.trans b3.output, by simp [World.setCell]; omega, fun k hk hm => bl k hk (fun e => hm ?_) (fun e => hm ?_)⟩
    · exact (h.mine k).2 (.inr (.inr (.inr (.inl e))))
    · exact (h.mine k).2 (.inr (.inr (.inl e)))
  · intro k hk hm
    refine (h.mine k).2 ?_
    rcases hm with e | e | e | e | e
    · exact .inl e
    · exact .inr (.inl e)
    · exact .inr (.inr (.inl e))
    · exact .inr (.inr (.inr (.inl (by rcases hat with e2 | e2 <;> omega))))
    · rcases e.snoc with e | e
      · exact .inr (.inr (.inr (.inr e)))
      · omega

set_option maxHeartbeats 4000000 in
set_option maxRecDepth 100000 in
theorem beh_any (b bo : Nat) (w : World) (M : Nat → Prop) (txt : List UInt8) (rows : List (List UInt8)) (hS : StE b bo w M txt rows) (hl : txt.length ≤ 20000000) (hrl : rows.length ≤ 1999999) :
    Calls Try.prog 11 #[.pointer (some ⟨bo, 0, none⟩), .pointer (some ⟨b, 0, none⟩)] w fun e w' => e = .returned (.tuple #[]) ∧ PPost w w' M (StE b bo) txt (rows ++ [txt]) := by
  obtain ⟨go, g, d, vs, h⟩ := hS
  obtain ⟨a1, a2, a3, a4, a5, a6, a7⟩ := h.apt
  have hbo := heap_lt h.out
  have hvl : vs.length ≤ 1999999 := by have := h.pcs.1; omega
  obtain ⟨l, el⟩ : ∃ l, l = vs.length := ⟨_, rfl⟩
  obtain ⟨n, en⟩ : ∃ n, n = txt.length := ⟨_, rfl⟩
  have out := h.out
  rw [← el] at out hvl
  have x0 : w.cell? ⟨bo, 0, none⟩ = some (.slice (some ⟨g, 0, none⟩) l d) := by rw [Lib.cell_of_heap out]; rfl
  have f0 : w.frozen? ⟨bo, 0, none⟩ = false := Lib.frozen_of_heap out 0
  have EL := Lib.hid el
  have EN := Lib.hid en
  have CB : Hid (Calls Try.prog 13 #[.pointer (some ⟨b, 0, none⟩)] w.drew fun e w' => ∃ A c, e = .returned (.slice A n c) ∧ Hid (Rd w' w'.heap.size A txt) ∧ w'.cell? ⟨bo, 0, none⟩ = some (.slice (some ⟨g, 0, none⟩) l d) ∧ Hid (Below w.heap.size w w' ∧ w'.heap.size = w.heap.size)) := by
    show Calls _ _ _ _ _
    rw [en]
    refine (buf_bytes b go txt w.drew h.buf).mono ?_
    rintro e w' ⟨A, c, rfl, hr, k, rfl⟩
    exact ⟨A, c, rfl, hr, x0, ⟨rfl, rfl, rfl, Nat.le_refl _, fun _ _ => rfl⟩, rfl⟩
  have CO : Hid (∀ (A : Option Addr) (c : Nat) (w2 : World), Hid (Rd w2 w2.heap.size A txt) → Hid (Below w.heap.size w w2 ∧ w2.heap.size = w.heap.size) → Calls Try.prog 12 #[.slice A n c] w2 fun e w' => ∃ g2 d2, e = .returned (.slice (some ⟨g2, 0, none⟩) n d2) ∧
      w'.cell? ⟨bo, 0, none⟩ = some (.slice (some ⟨g, 0, none⟩) l d) ∧ Hid (Own w' w.heap.size g2 d2 txt) ∧ Hid (Below w.heap.size w w') ∧ Hid (OwnV 22 w' 0 g d vs)) := by
    intro A c w2 hr hb2
    refine (own_any A n c txt w2 en hr (by omega)).mono ?_
    rintro e w' ⟨g2, d2, rfl, ho, hb⟩
    have hbw : Below w.heap.size w w' := hb2.out.1.trans (hb.mono (by have := hb2.out.2; omega))
    rw [hb2.out.2] at ho
    refine ⟨g2, d2, by rw [en], ?_, ho, hbw, h.own.below hbw⟩
    exact (hbw.cell (p := ⟨bo, 0, none⟩) hbo).trans x0
  have HH := Lib.hid h
  clear h out el en
  go_enter Try.func11, Try.ntmps11
  go_wp2_with fail
  go_region_law (first
    | (refine step_call1 (by rfl) 13 (.tmp 1) _ (by rfl) ent_bytes _ (by rfl) _ CB.out ?_; rintro e w2 ⟨A, c, rfl, r2, x2, b2⟩; refine ⟨_, rfl, ?_⟩)
    | (refine step_call1 (by rfl) 12 (.tmp 3) _ (by rfl) ent_own _ (by rfl) _ (CO.out _ _ _ r2 b2) ?_; rintro e w3 ⟨g3, d3, rfl, x3, o3, b3, v3⟩; refine ⟨_, rfl, ?_⟩
       have x3a : ∀ o, (w3.alloc o).cell? ⟨bo, 0, none⟩ = some (.slice (some ⟨g, 0, none⟩) l d) := fun o => (World.cell?_alloc_lt w3 o ⟨bo, 0, none⟩ (by have := b3.out.size; show bo < _; omega)).trans x3)
    | (refine step_append_one infoRow rfl (by decide) (by rfl) _ _ 24 (by rfl) Try.underlying24 0 g d vs l (by rfl) EL.out (v3.out.al _) w3.heap.size 1 (.slice (some ⟨g3, 0, none⟩) n d3) (by rfl) (cell_of_row _ w3.heap.size 0 _ _ _ (heap_alloc_new w3 _)) rfl (by have := EL.out; omega) (Nat.zero_le _) ?_; intro g5 c5 w5 h5 hg5 hat
       have x5 : w5.cell? ⟨bo, 0, none⟩ = some (.slice (some ⟨g, 0, none⟩) l d) := (World.cell?_of_block (a := ⟨bo, 0, none⟩) ((hg5.block bo (by have := b3.out.size; simp; omega) (fun e => a3 (by injection e))).trans (Below.heap_alloc _ _ _ (by have := b3.out.size; omega)))).trans x3
       have f5 : w5.frozen? ⟨bo, 0, none⟩ = false := (World.frozen?_of_block (a := ⟨bo, 0, none⟩) ((hg5.block bo (by have := b3.out.size; simp; omega) (fun e => a3 (by injection e))).trans ((Below.heap_alloc _ _ _ (by have := b3.out.size; omega)).trans (b3.out.block bo hbo)))).trans f0))
  all_goals
    go_wp2_with fail
    go_end0
    refine ⟨rfl, ?_⟩
    have o3' := o3.out
    rw [EN.out] at h5
    exact beh_fin HH.out o3' b3.out h5 hg5 hat

theorem beh_buf (b bo : Nat) : Beh Try.prog 11 #[.pointer (some ⟨bo, 0, none⟩), .pointer (some ⟨b, 0, none⟩)] (StE b bo) := {
  ent := ent_beh
  beh := fun w M txt rows hS hl hr => (beh_any b bo w M txt rows hS hl hr).mono fun e w' ⟨h1, h2⟩ => ⟨h1, h2.st⟩ }

set_option maxHeartbeats 4000000 in
set_option maxRecDepth 100000 in
theorem encodeStream_any (A : Option Addr) (n c : Nat) (bs : List UInt8) (A2 : Option Addr) (m c2 : Nat) (zs : List Int) (w : World) (hn : n = bs.length) (h : Rd w w.heap.size A bs) (hnc : n ≤ c) (hc : c ≤ 1048576) (hm : m = zs.length) (h2 : RdI w w.heap.size A2 zs) (hml : m ≤ 1048576) :
    Calls Try.prog 6 #[.slice A n c, .slice A2 m c2] w fun e w' => ∃ g d vs, e = .returned (.slice (some ⟨g, 0, none⟩) (m + 2) d) ∧ vs.length = m + 2 ∧ m + 2 ≤ d ∧ d ≤ maxLen ∧ OwnV 22 w' 0 g d vs ∧ Pieces w' 0 vs (sumsFrom encG [] (pcs bs zs) ++ [Asc.enc bs]) ∧ Below w.heap.size w w' := by
  have HN := Lib.hid hn
  have HM := Lib.hid hm
  have HRI := Lib.hid h2
  clear hn hm h2
  go_enter Try.func6, Try.ntmps6
  go_wp2_with fail
  obtain ⟨W, hW⟩ : ∃ W, (((w.alloc (.cells #[.slice none 0 0, .int .i64 0, .int .i8 0] 34)).alloc (.cells #[] 22)).alloc (.cells #[.slice (some ⟨w.heap.size + 1, 0, none⟩) 0 0] 24)) = W := ⟨_, rfl⟩
  have sW : W.heap.size = w.heap.size + 3 := by subst hW; simp
  have e0 : W.heap[w.heap.size]? = some (.cells #[.slice none 0 0, .int .i64 0, .int .i8 0] 34 (0, 0)) := by
    subst hW
    rw [Below.heap_alloc _ _ _ (by simp; omega), Below.heap_alloc _ _ _ (by simp)]
    exact heap_alloc_new w _
  have e1 : W.heap[w.heap.size + 1]? = some (.cells #[] 22 (0, 0)) := by
    subst hW
    rw [Below.heap_alloc _ _ _ (by simp)]
    have := heap_alloc_new (w.alloc (.cells #[.slice none 0 0, .int .i64 0, .int .i8 0] 34)) (.cells #[] 22)
    simpa using this
  have e2 : W.heap[w.heap.size + 2]? = some (.cells #[.slice (some ⟨w.heap.size + 1, 0, none⟩) 0 0] 24 (0, 0)) := by
    subst hW
    have := heap_alloc_new ((w.alloc (.cells #[.slice none 0 0, .int .i64 0, .int .i8 0] 34)).alloc (.cells #[] 22)) (.cells #[.slice (some ⟨w.heap.size + 1, 0, none⟩) 0 0] 24)
    simpa using this
  have bW : Below w.heap.size w W := by subst hW; exact (((Below.refl _ _).alloc (Nat.le_refl _) _).alloc (by simp) _).alloc (by simp; omega) _
  rw [hW]
  clear hW
  have hS0 : StE w.heap.size (w.heap.size + 2) W (fun k => k = w.heap.size ∨ (none : Option Nat) = some k ∨ k = w.heap.size + 2 ∨ k = w.heap.size + 1 ∨ PB [] k) [] [] :=
    ⟨none, w.heap.size + 1, 0, [], ⟨0, .inl ⟨rfl, rfl, e0⟩⟩, e2, ⟨rfl, .inr ⟨w.heap.size + 1, 0, #[], rfl, Nat.zero_le _, e1, Nat.le_refl _, by simp [maxLen], rfl, rfl⟩⟩, Pieces.nil _ _, (fun _ e => by cases e), fun _ => Iff.rfl⟩
  refine (encodePieces_any (wtr_buf w.heap.size (w.heap.size + 2)) (beh_buf w.heap.size (w.heap.size + 2)) A n c bs A2 m c2 zs W _ hS0 HN.out ((h.below bW).mono (by omega)) hnc hc HM.out (RdI.below' HRI.out bW (by omega)) hml).mono ?_
  rintro e w1 ⟨rfl, ⟨M', ⟨go, g, d, vs, hst⟩, hF, hM'⟩⟩
  have hvl : vs.length = m + 2 := by rw [hst.pcs.1, List.length_append, List.length_singleton, sumsFrom_length, pcs_len, HM.out]
  have hout := hst.out
  rw [hvl] at hout
  have x0 : w1.cell? ⟨w.heap.size + 2, 0, none⟩ = some (.slice (some ⟨g, 0, none⟩) (m + 2) d) := by rw [Lib.cell_of_heap hout]; rfl
  have hcap : vs.length ≤ d ∧ d ≤ maxLen := by
    rcases hst.own.2 with ⟨e, _⟩ | ⟨g', c', cur, e, hb', hh, h1, h2, _⟩
    · cases e
    · injection e with _ _ e3
      subst e3
      exact ⟨h1, h2⟩
  have hbel : Below w.heap.size w w1 := by
    refine bW.trans (hF.toBelow (by omega) (fun k hk hm => ?_))
    rcases hm with e | e | e | e | ⟨i, _, _, e⟩
    · omega
    · cases e
    · omega
    · omega
    · simp at e
  have HVL := Lib.hid hvl
  have HST := Lib.hid hst
  clear hvl hst hout hF hM' e0 e1 e2 hS0
  go_wp2_with fail
  go_ret
  exact ⟨g, d, vs, rfl, HVL.out, by have := HVL.out; omega, hcap.2, HST.out.own, HST.out.pcs, hbel⟩

end Go.Proofs.Ytmddbfcghddacaa

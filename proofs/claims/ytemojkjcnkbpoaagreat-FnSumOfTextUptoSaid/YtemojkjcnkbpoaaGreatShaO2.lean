/-
  Several texts in one: ShaM, ShaO. Conditions: as each says.
-/
import Derived.Test.YtemojkjcnkbpoaaGreatShaQ
import Derived.Test.YtemojkjcnkbpoaaGreatSt
import Derived.Deep.RegionLaw
/-
  SHA-3: AppendBinary and MarshalBinary of a digest that drinks. No condition.
-/
namespace Go.Proofs.YtemojkjcnkbpoaaGreat
open Go.RowKit
set_option linter.unusedVariables false

theorem step_append_bytes {w : World} {ops : Array Oper} {o : Oper} {a : Act} {K : Act → World → Prop} {Q : Exit → Act → World → Prop} {E : Prop} (hgd : o.guard = none) (s x : Operand) (t : TypeId)
    (ho : o.op = .call { callee := .builtin .append, args := #[s, x], argTypes := #[t, t] }) (ht : Tryz.prog.underlying t = some (.slice 5))
    (base g c : Nat) (xs bs : List UInt8) (n m : Nat) (hs : a.eval s = .slice (some ⟨g, 0, none⟩) n c) (hn : n = xs.length) (hown : Own w base g c xs)
    (B : Nat) (A : Option Addr) (d : Nat) (hx : a.eval x = .slice A m d) (hm : m = bs.length) (hr : Rd w B A bs) (hl : xs.length + bs.length ≤ 100000000000000) (hbase : base ≤ w.heap.size) (L : Nat) (hL : L = (xs ++ bs).length)
    (h : ∀ g' c' w', Own w' base g' c' (xs ++ bs) → w.grownBy w' (some g) → (g' = g ∨ g' = w.heap.size) → K (a.put o.dst (.slice (some ⟨g', 0, none⟩) L c')) w') :
    if Region.wanted o (yielded ops a.tmps) = true then Oper.wp Tryz.prog o a w K Q else E := by
  have hw : Region.wanted o (yielded ops a.tmps) = true := by simp [Region.wanted, hgd]
  rw [if_pos hw]
  subst hL
  subst hn
  subst hm
  obtain ⟨g', c', w', hrun, h2, h3, h4⟩ := run_append_bytes_at info5 w t o.type ht base g c xs bs hown B A d hr (by omega) hbase
  unfold Oper.wp execOp
  simp only [ho, resolve, invoke, builtin, Sem.run_bind, Sem.run_pure, Result.andThen_ok, List.map_toArray, List.map_cons, List.map_nil, hs, hx, hrun]
  exact h g' c' w' h2 h3 h4

def mag8 : List UInt8 := [115, 104, 97, 8]

theorem DG.rd {w : World} {h : Nat} {T : TypeId} {a : List UInt8} {n rate ds out st : Nat} {tl : List Value} (d : DG w h T a n rate ds out st tl) (B : Nat) (hB : h < B) : Rd w B (some ⟨h, 0, none⟩) a :=
  .inr ⟨h, 0, rfl, hB, fun i x hx => by rw [Nat.zero_add]; exact d.byte hx⟩

theorem DG.grown {w w' : World} {h : Nat} {T : TypeId} {a : List UInt8} {n rate ds out st g : Nat} {tl : List Value} (d : DG w h T a n rate ds out st tl) (hg : w.grownBy w' (some g)) (hne : g ≠ h) : DG w' h T a n rate ds out st tl :=
  d.keep (hg.block h d.lt (fun e => hne (by injection e with e; exact e.symm)))

set_option maxRecDepth 100000 in
set_option maxHeartbeats 2000000 in
theorem shaAppend_any {w : World} {h : Nat} {T : TypeId} {a : List UInt8} {out : Nat} (xn xr : UInt8) (d : DG w h T a xn.toNat xr.toNat 6 out 0 []) (base g c : Nat) (ho : Own w base g c []) (hb : base ≤ w.heap.size) (hhb : h < base) :
    Calls Tryz.prog 70 #[.pointer (some ⟨h, 0, none⟩), .slice (some ⟨g, 0, none⟩) 0 c] w fun e w' => ∃ g' c', e = .returned (.tuple #[.slice (some ⟨g', 0, none⟩) (mag8 ++ [xr] ++ a ++ [xn, 0]).length c', .nilIface]) ∧ Own w' base g' c' (mag8 ++ [xr] ++ a ++ [xn, 0]) ∧ Below base w w' := by
  have hne : g ≠ h := by have := ho.lt'; omega
  have hgb := ho.lt'.1
  obtain ⟨c0, c1, c2, c3, c4⟩ := d.cs
  have HD := Lib.hid d
  have l1 := xn.toNat_lt
  have l2 := xr.toNat_lt
  have hl := d.len
  have v1 : IntKind.u8.wrap (xn.toNat : Int) = (xn.toNat : Int) := by rw [IntKind.wrap_u8]; omega
  have v2 : IntKind.u8.wrap (xr.toNat : Int) = (xr.toNat : Int) := by rw [IntKind.wrap_u8]; omega
  clear d c0 c1 c3 c4
  go_enter Tryz.func70, Tryz.ntmps70
  go_upto_region 11 with (at_builtin; refine wpList_append_str_at rfl _ _ 22 9 rfl Tryz.underlying22 Tryz.underlying9 base g c [] 0 rfl rfl ho ⟨#[115, 104, 97, 8]⟩ rfl (by decide) hb ?_; intro g1 c1 w1 h1 h2 h3; refine Hid.out ?_)
  refine Lib.hid ?_
  have e4 : ([] ++ (⟨#[115, 104, 97, 8]⟩ : ByteArray).data.toList : List UInt8) = mag8 := rfl
  rw [e4] at h1
  have D1 := HD.out.grown h2 hne
  have z1 := h2.size
  have hhl := HD.out.lt
  have bw1 : Below base w w1 := (Below.refl _ _).grown h2 hb (fun k hk => by injection hk with hk; omega)
  have hne1 : g1 ≠ h := by omega
  have hg1 := h1.lt'
  obtain ⟨-, cr1, -, -, -⟩ := D1.cs
  have HD1 := Lib.hid D1
  have HB1 := Lib.hid bw1
  clear D1 bw1 h2 h3 e4 c2 ho
  go_upto_region 12 with (at_builtin; refine Hid.out ?_)
  refine Lib.hid ?_
  obtain ⟨W1, hW1⟩ : ∃ W1, w1.alloc (.cells ([xr].map bv).toArray 5) = W1 := ⟨_, rfl⟩
  have s1 : W1.heap.size = w1.heap.size + 1 := by subst hW1; simp
  have r1 : Rd W1 W1.heap.size (some ⟨w1.heap.size, 0, none⟩) [xr] := by rw [s1]; subst hW1; exact Rd.lit w1 [xr] _ (Nat.lt_succ_self _)
  have o1 : Own W1 base g1 c1 mag8 := by subst hW1; exact h1.alloc _
  have b1 : Below base w W1 := by subst hW1; exact HB1.out.alloc (by omega) _
  have d1 : DG W1 h T a xn.toNat xr.toNat 6 out 0 [] := by subst hW1; exact HD1.out.keep (Below.heap_alloc _ _ _ HD1.out.lt)
  change wpList _ _ _ _ _ (w1.alloc (.cells ([xr].map bv).toArray 5))
  rw [hW1]
  refine wpList_append_bytes_at rfl _ _ 22 rfl Tryz.underlying22 base g1 c1 mag8 [xr] 4 1 rfl rfl o1 W1.heap.size (some ⟨w1.heap.size, 0, none⟩) 1 rfl rfl r1 (by simp [mag8]) (by omega) ?_
  intro g2 c2 w2 h1 h2 h3
  have D2 := d1.grown h2 hne1
  have b2 : Below base w w2 := b1.grown h2 (by omega) (fun k hk => by injection hk with hk; omega)
  have z2 := h2.size
  have hne2 : g2 ≠ h := by omega
  have hg2 := h1.lt'
  have HD2 := Lib.hid D2
  have HB2 := Lib.hid b2
  have H1 := Lib.hid h1
  obtain ⟨m5, hm5⟩ : ∃ m5, (mag8 ++ [xr]).length = m5 := ⟨_, rfl⟩
  rw [hm5]
  have HM5 := Lib.hid hm5
  clear hm5 D2 b2 h2 h3 h1 d1 b1 o1 r1 hW1 cr1
  go_upto_region 13 with (at_builtin; refine Hid.out ?_)
  refine Lib.hid ?_
  refine wpList_append_bytes_at rfl _ _ 22 rfl Tryz.underlying22 base g2 c2 (mag8 ++ [xr]) a m5 200 rfl HM5.out.symm H1.out w2.heap.size (some ⟨h, 0, none⟩) 200 rfl hl.symm (HD2.out.rd _ HD2.out.lt) (by simp [mag8]; omega) (by omega) ?_
  intro g3 c3 w3 h1 h2 h3
  have D3 := HD2.out.grown h2 hne2
  have b3 : Below base w w3 := HB2.out.grown h2 (by omega) (fun k hk => by injection hk with hk; omega)
  have z3 := h2.size
  have hne3 : g3 ≠ h := by omega
  have hg3 := h1.lt'
  obtain ⟨q0, -, -, -, q4⟩ := D3.cs
  have sz3 : base ≤ w3.heap.size := by omega
  have F1 : Hid (∀ W : World, W = (w3.alloc (.cells ([xn, 0].map bv).toArray 5)).drew → Own W base g3 c3 (mag8 ++ [xr] ++ a) ∧ Rd W W.heap.size (some ⟨w3.heap.size, 0, none⟩) [xn, 0] ∧ Below base w W ∧ base ≤ W.heap.size) := fun W e => by
    subst e
    refine ⟨h1.alloc _, Rd.drew (Rd.lit w3 [xn, 0] _ ?_), (b3.alloc sz3 _).drew, ?_⟩
    · show w3.heap.size < (w3.alloc _).heap.size
      simp
    · show base ≤ (w3.alloc _).heap.size
      simp; omega
  obtain ⟨m6, hm6⟩ : ∃ m6, (mag8 ++ [xr] ++ a).length = m6 := ⟨_, rfl⟩
  rw [hm6]
  have HM6 := Lib.hid hm6
  have hm205 : (mag8 ++ [xr] ++ a).length + [xn, 0].length ≤ 100000000000000 := by simp [mag8]; omega
  have H205 := Lib.hid hm205
  obtain ⟨m7, hm7⟩ : ∃ m7, m7 = (mag8 ++ [xr] ++ a ++ [xn, 0]).length := ⟨_, rfl⟩
  have HM7 := Lib.hid hm7
  clear hm6 D3 b3 h2 h3 h1 hm205 hm7
  go_wp2_with fail
  go_region_law (first | (refine step_append_bytes (by rfl) _ _ 22 (by rfl) Tryz.underlying22 base g3 c3 (mag8 ++ [xr] ++ a) [xn, 0] m6 2 (by rfl) HM6.out.symm (F1.out _ (by rfl)).1 _ (some ⟨w3.heap.size, 0, none⟩) 2 (by rfl) (by rfl) (F1.out _ (by rfl)).2.1 H205.out (F1.out _ (by rfl)).2.2.2 m7 HM7.out ?_; intro g4 c4 w4 h1 h2 h3))
  all_goals
    have b5 : Below base w w4 := (F1.out _ rfl).2.2.1.grown h2 (F1.out _ rfl).2.2.2 (fun k hk => by injection hk with hk; omega)
    have HO7 := Lib.hid h1
    clear h2 h3 h1
    go_wp2_with fail
    go_ret2
    exact ⟨g4, c4, by rw [← HM7.out]; rfl, HO7.out, b5⟩

end Go.Proofs.YtemojkjcnkbpoaaGreat

/-
  SHA-3: MarshalBinary of a digest that drinks, and of a SHA3. No condition.
-/
namespace Go.Proofs.YtemojkjcnkbpoaaGreat
open Go.RowKit
set_option linter.unusedVariables false

def row207 : Array Value := (List.replicate 207 (Value.int .u8 0)).toArray
theorem row207_size : row207.size = 207 := by unfold row207; rw [List.size_toArray, List.length_replicate]
set_option maxRecDepth 100000 in
theorem make_d (W : World) : (Instr.makeSlice 22 (.int .i64 0) (.int .i64 207)).run Tryz.prog W = .ok (.slice (some ⟨W.heap.size, 0, none⟩) 0 207) (W.alloc (.cells row207 5)) := by kernel_rfl

set_option maxRecDepth 100000 in
set_option maxHeartbeats 1000000 in
theorem dMar_any {w : World} {h : Nat} {T : TypeId} {a : List UInt8} {out : Nat} (xn xr : UInt8) (d : DG w h T a xn.toNat xr.toNat 6 out 0 []) :
    Calls Tryz.prog 65 #[.pointer (some ⟨h, 0, none⟩)] w fun e w' => ∃ g c, e = .returned (.tuple #[.slice (some ⟨g, 0, none⟩) (mag8 ++ [xr] ++ a ++ [xn, 0]).length c, .nilIface]) ∧ Own w' w.heap.size g c (mag8 ++ [xr] ++ a ++ [xn, 0]) ∧ Below w.heap.size w w' := by
  have hmk := fun W => make_d W
  have hhl := d.lt
  have HD := Lib.hid d
  clear d
  go_enter Tryz.func65, Tryz.ntmps65
  go_wp2_with fail
  obtain ⟨V, hV⟩ : ∃ V, w.alloc (.cells row207 5) = V := ⟨_, rfl⟩
  have sV : V.heap.size = w.heap.size + 1 := by subst hV; simp
  have bV : Below w.heap.size w V := by subst hV; exact (Below.refl _ _).alloc (Nat.le_refl _) _
  have oV : Own V w.heap.size w.heap.size 207 [] := by
    subst hV
    exact ⟨rfl, .inr ⟨w.heap.size, 207, _, rfl, Nat.le_refl _, heap_alloc_new w _, by simp, by simp [maxLen], by rw [row207_size], rfl⟩⟩
  rw [hV]
  clear hV
  refine (shaAppend_any xn xr (HD.out.keep (bV.block h hhl)) w.heap.size w.heap.size 207 oV (by omega) hhl).mono ?_
  rintro e w' ⟨g', c', rfl, o1, b1⟩
  obtain ⟨m, hm⟩ : ∃ m, m = (mag8 ++ [xr] ++ a ++ [xn, 0]).length := ⟨_, rfl⟩
  rw [← hm]
  have bw := bV.trans b1
  have HMM := Lib.hid hm
  clear hm b1
  go_wp2_with fail
  go_ret2
  exact ⟨g', c', by rw [HMM.out]; rfl, o1, bw⟩

set_option maxRecDepth 100000 in
set_option maxHeartbeats 1000000 in
theorem sMar_any {w : World} {h : Nat} {T : TypeId} {a : List UInt8} {out : Nat} (xn xr : UInt8) (d : DG w h T a xn.toNat xr.toNat 6 out 0 []) (ho : 0 < out) :
    Calls Tryz.prog 58 #[.pointer (some ⟨h, 0, none⟩)] w fun e w' => ∃ g c, e = .returned (.tuple #[.slice (some ⟨g, 0, none⟩) (mag8 ++ [xr] ++ a ++ [xn, 0]).length c, .nilIface]) ∧ Own w' w.heap.size g c (mag8 ++ [xr] ++ a ++ [xn, 0]) ∧ Below w.heap.size w w' := by
  have X := Lib.hid (dMar_any xn xr d)
  have Y := Lib.hid (init_any d ho)
  obtain ⟨m, hm⟩ : ∃ m, m = (mag8 ++ [xr] ++ a ++ [xn, 0]).length := ⟨_, rfl⟩
  rw [← hm] at X ⊢
  clear d hm
  go_enter Tryz.func58, Tryz.ntmps58
  go_wp2_with (first | (go_at_call 64; refine Y.out.mono ?_; rintro e w0 ⟨rfl, rfl⟩) | (go_at_call 65; refine X.out.mono ?_; rintro e w1 ⟨g, c, rfl, O1, B1⟩; replace O1 := Lib.hid O1; replace B1 := Lib.hid B1))
  go_ret2
  exact ⟨g, c, rfl, O1.out, B1.out⟩

end Go.Proofs.YtemojkjcnkbpoaaGreat


/-
  FnAdlerAdded: the sum of data that are added place by place, without a carry, follows from both sums and the length, for every two lists of bytes. No condition.
-/
import Derived.Test.YtciadiaodceijaaAddR
import Derived.Test.YtciadiaodceijaaAdlerAddP
import Derived.Test.YtciadiaodceijaaAdler
import Derived.Test.YtciadiaodceijaaSame
import Derived.Deep.LoopGhost
import Derived.Deep.DeepCutAuto
import Derived.IntWalk
import Derived.Outline
namespace Go.Proofs.Ytciadiaodceijaa
open Go.RowKit
set_option linter.unusedVariables false

def addDs : List Nat := [46, 47, 48, 49, 50, 51, 52, 53, 54, 55, 56, 57, 58, 59, 60, 61, 62, 63, 64, 65, 6, 7, 8]

def chk (ops : Array Oper) (i : Nat) (ks : List Nat) : Bool := ((ops[i]?).map fun o => ks.all fun k => o.after.any fun e => e.on == k && Region.binds .any e).getD false
theorem ready_pre {ops : Array Oper} {i : Nat} {l : Array Bool} (hr : i ∈ Region.ready .any ops l) (ks : List Nat) (hc : chk ops i ks = true) : ∀ k ∈ ks, l.getD k false = true := by
  obtain ⟨_, o, ho, hall⟩ := mem_ready.1 hr
  unfold chk at hc
  rw [ho, Option.map_some, Option.getD_some, List.all_eq_true] at hc
  intro k hk
  have h1 := hc k hk
  rw [Array.any_eq_true'] at h1
  obtain ⟨e, he, h2⟩ := h1
  rw [Bool.and_eq_true, beq_iff_eq] at h2
  have := hall e he h2.2
  rw [h2.1] at this
  exact this
def chkB (ops : Array Oper) : Bool := (List.range ops.size).all fun i => ((ops[i]?).map fun o => o.after.all fun e => decide (e.on < i)).getD true
theorem back_of {ops : Array Oper} (h : chkB ops = true) : ∀ (i : Nat) (o : Oper), ops[i]? = some o → ∀ e ∈ o.after, e.on < i := by
  intro i o ho e he
  unfold chkB at h
  rw [List.all_eq_true] at h
  have := h i (List.mem_range.2 (Array.getElem?_eq_some_iff.1 ho).1)
  rw [ho, Option.map_some, Option.getD_some, Array.all_eq_true_iff_forall_mem] at this
  exact of_decide_eq_true (this e he)

theorem run_idx {o : Oper} {a : Act} {W : World} {x y : Operand} {b f n c i : Nat} (hop : o.op = .indexAddr 22 x y) (hx : a.eval x = .slice (some ⟨b, f, none⟩) n c) (hy : a.eval y = .int .i64 (i : Int)) (hi : (i : Int) < (n : Int)) : (execOp a.eval o).run Try.prog W = .ok (.value (.pointer (some ⟨b, f + i, none⟩))) W := by
  have h0 : (0 : Int) ≤ (i : Int) := by omega
  unfold execOp
  rw [hop]
  simp only [hx, hy]
  simp [go_sem, hi]
theorem run_ld {o : Oper} {a : Act} {W : World} {x : Operand} {b f : Nat} {z : UInt8} (hop : o.op = .load 5 x) (hx : a.eval x = .pointer (some ⟨b, f, none⟩)) (h : W.cell? ⟨b, f, none⟩ = some (.int .u8 (z.toNat : Int))) : (execOp a.eval o).run Try.prog W = .ok (.value (.int .u8 (z.toNat : Int))) W := by
  unfold execOp
  rw [hop]
  simp only [hx]
  simp [go_sem, h]
theorem run_ad {o : Oper} {a : Act} {W : World} {x y : Operand} {p q : Nat} {z : UInt8} (hop : o.op = .binOp .add 5 x y 5) (hx : a.eval x = .int .u8 (p : Int)) (hy : a.eval y = .int .u8 (q : Int)) (hz : IntKind.u8.wrap ((p : Int) + (q : Int)) = (z.toNat : Int)) : (execOp a.eval o).run Try.prog W = .ok (.value (.int .u8 (z.toNat : Int))) W := by
  unfold execOp
  rw [hop]
  simp only [hx, hy]
  simp [go_sem, hz]
theorem run_ly {o : Oper} {a : Act} {W : World} {x : Operand} {z : UInt8} (hop : o.op = .buildSlice 22 1 #[(0, x)]) (hx : a.eval x = .int .u8 (z.toNat : Int)) : (execOp a.eval o).run Try.prog W = .ok (.value (.slice (some ⟨W.heap.size, 0, none⟩) 1 1)) (W.alloc (.cells #[bv z] 5)) := by
  unfold execOp
  rw [hop]
  simp only [List.map_toArray, List.map_cons, List.map_nil, hx]
  simp [go_sem, bv]
theorem run_ap {o : Oper} {a : Act} {W W' : World} {x y : Operand} {u v z : Value} (hop : o.op = .call { callee := .builtin .append, args := #[x, y], argTypes := #[22, 22] }) (hx : a.eval x = u) (hy : a.eval y = v) (h : (Builtin.append_ #[22, 22] o.type #[u, v]).run Try.prog W = .ok z W') : (execOp a.eval o).run Try.prog W = .ok (.value z) W' := by
  unfold execOp
  simp only [hop, resolve, invoke, builtin, Sem.run_bind, Sem.run_pure, Result.andThen_ok, List.map_toArray, List.map_cons, List.map_nil, hx, hy, h]

set_option maxRecDepth 100000 in
set_option maxHeartbeats 4000000 in
theorem adlerAdded_walk (A0 : Option Addr) (c0 : Nat) (bs0 : List UInt8) (A1 : Option Addr) (c1 : Nat) (bs1 : List UInt8) (w : World) (rd0 : Rd w w.heap.size A0 bs0) (lc0 : bs0.length ≤ c0) (lm0 : c0 ≤ 140737488351232) (rd1 : Rd w w.heap.size A1 bs1) (lc1 : bs1.length ≤ c1) (lm1 : c1 ≤ 140737488351232) :
    Calls Try.prog 3 #[.slice A0 bs0.length c0, .slice A1 bs1.length c1] w fun e w' => e = .returned (.bool true) ∧ Below w.heap.size w w' := by
  obtain ⟨n0, hn0⟩ : ∃ n, n = bs0.length := ⟨_, rfl⟩
  obtain ⟨n1, hn1⟩ : ∃ n, n = bs1.length := ⟨_, rfl⟩
  rw [← hn0] at lc0 ⊢
  rw [← hn1] at lc1 ⊢
  obtain ⟨n, hn⟩ : ∃ n, n = min n0 n1 := ⟨_, rfl⟩
  obtain ⟨zs, hz⟩ : ∃ zs, zs = bs0.zip bs1 := ⟨_, rfl⟩
  have hzl : zs.length = n := by rw [hz, List.length_zip, hn, hn0, hn1]
  have HN0 := Lib.hid hn0
  have HN1 := Lib.hid hn1
  have HN := Lib.hid hn
  have HZ := Lib.hid hz
  have HZL := Lib.hid hzl
  have hnb : n ≤ 140737488351232 := by omega
  clear hn0 hn1 hz hzl
  go_enter Try.func3, Try.ntmps3
  go_upto_region 2 with (fail)
  go_cut [5, 6, 7, 8] (fun x p q b wc => x = .int .i64 (n : Int) ∧ p = .slice (some ⟨w.heap.size, 0, none⟩) 0 0 ∧ q = .slice (some ⟨w.heap.size + 1, 0, none⟩) 0 0 ∧ b = .slice (some ⟨w.heap.size + 2, 0, none⟩) 0 0 ∧ wc = ((w.alloc (.cells #[] 5)).alloc (.cells #[] 5)).alloc (.cells #[] 5))
  case first =>
    go_wp2_with fail
    all_goals (go_meet; refine ⟨?_, rfl, rfl, rfl, rfl⟩; congr 1; omega)
  case rest =>
    obtain ⟨rfl, rfl, rfl, rfl, hV⟩ := hcut
    obtain ⟨V, rfl⟩ : ∃ V, V = wc := ⟨_, rfl⟩
    have hV := hV.symm
    clear hn
    have sV : V.heap.size = w.heap.size + 3 := by subst hV; simp
    have bV : Below w.heap.size w V := by subst hV; exact (((Below.refl _ _).alloc (Nat.le_refl _) _).alloc (by simp) _).alloc (by simp; omega) _
    have oV : Own V w.heap.size w.heap.size 0 [] ∧ Own V w.heap.size (w.heap.size + 1) 0 [] ∧ Own V w.heap.size (w.heap.size + 2) 0 [] := by
      subst hV
      refine ⟨?_, ?_, ?_⟩
      · exact ((Own.empty w _ (Nat.le_refl _)).alloc _).alloc _
      · have := (Own.empty (w.alloc (.cells #[] 5)) w.heap.size (by simp)).alloc (.cells #[] 5)
        rw [show (w.alloc (.cells #[] 5)).heap.size = w.heap.size + 1 by simp] at this
        exact this
      · have := Own.empty ((w.alloc (.cells #[] 5)).alloc (.cells #[] 5)) w.heap.size (by simp; omega)
        rw [show ((w.alloc (.cells #[] 5)).alloc (.cells #[] 5)).heap.size = w.heap.size + 2 by simp] at this
        exact this
    clear hV
    have OV := Lib.hid oV
    have BV := Lib.hid bV
    clear oV bV
    go_wp2_with fail
    go_loopg [6, 7, 8, 9] n (fun gk pv qv bv' iv wr => ∃ (i g1 d1 g2 d2 g3 d3 : Nat), i + gk = n ∧ iv = .int .i64 (i : Int) ∧ pv = .slice (some ⟨g1, 0, none⟩) i d1 ∧ qv = .slice (some ⟨g2, 0, none⟩) i d2 ∧ bv' = .slice (some ⟨g3, 0, none⟩) i d3 ∧
      Hid (Own wr w.heap.size g1 d1 ((zs.take i).map (·.1)) ∧ Own wr w.heap.size g2 d2 ((zs.take i).map addQ) ∧ Own wr w.heap.size g3 d3 ((zs.take i).map addB)) ∧ Hid (g1 ≠ g2 ∧ g1 ≠ g3 ∧ g2 ≠ g3) ∧ Hid (Below w.heap.size w wr))
    case atStart => exact ⟨0, w.heap.size, 0, w.heap.size + 1, 0, w.heap.size + 2, 0, by omega, rfl, rfl, rfl, rfl, OV, ⟨by omega, by omega, by omega⟩, BV⟩
    case round =>
      obtain ⟨i, g1, d1, g2, d2, g3, d3, hi, rfl, rfl, rfl, rfl, HO, HG, HB⟩ := hrel
      have HI := Lib.hid hi
      have hin : i ≤ n := by omega
      clear hi
      have hsz' := HB.out.size
      by_cases hlt : i < n
      · obtain ⟨b0, o0, x, rfl, hb0, hx, hcx⟩ := (rd0.below HB.out).at (k := i) (by have := HN0.out; have := HN.out; omega)
        obtain ⟨b1, o1, y, rfl, hb1, hy, hcy⟩ := (rd1.below HB.out).at (k := i) (by have := HN1.out; have := HN.out; omega)
        have hxb := x.toNat_lt
        have hyb := y.toNat_lt
        obtain ⟨ho1, ho2⟩ := addOwn_nat x y
        have ho3 := addBoth_nat x y
        have hmod : (y.toNat : Int).tmod (256 - (x.toNat : Int)) = ((addOwn x y).toNat : Int) := by
          rw [Int.tmod_eq_emod_of_nonneg (by omega), ho1, show 256 - (x.toNat : Int) = ((256 - x.toNat : Nat) : Int) by omega]
          exact (Int.natCast_emod _ _).symm
        have w1 : IntKind.i64.wrap (256 - (x.toNat : Int)) = 256 - (x.toNat : Int) := by rw [IntKind.wrap_i64]; omega
        have w2 : IntKind.u8.wrap ((addOwn x y).toNat : Int) = ((addOwn x y).toNat : Int) := by rw [IntKind.wrap_u8]; have := (addOwn x y).toNat_lt; omega
        have w3 : IntKind.i64.wrap (x.toNat : Int) = (x.toNat : Int) := by rw [IntKind.wrap_i64]; omega
        have w4 : IntKind.i64.wrap (y.toNat : Int) = (y.toNat : Int) := by rw [IntKind.wrap_i64]; omega
        have p0 : (256 - (x.toNat : Int) == 0) = false := by simp; omega
        have p1 : (0 : Int) ≤ (i : Int) := by omega
        have p2 : (i : Int) < (n0 : Int) := by have := HN.out; omega
        have p3 : (i : Int) < (n1 : Int) := by have := HN.out; omega
        have p4 : ¬ 256 - (x.toNat : Int) = 0 := by omega
        have HX := Lib.hid hx
        have HY := Lib.hid hy
        have HO1 := Lib.hid ho1
        have HO3 := Lib.hid ho3
        clear hx hy ho1 ho3
        go_wp2_with fail
        go_quiet (fail)
        go_wp2_with fail
        obtain ⟨W, hW⟩ : ∃ W, W = wr := ⟨_, rfl⟩
        refine wp_region_any' (by kernel_rfl) ?_
        intro ops a0 hops ha0
        have hsz : ops.size = 23 := by rw [hops]; rfl
        have hat : a0.tmps.size = 110 := by rw [ha0]; rfl
        have hback : chkB ops = true := by rw [hops]; kernel_rfl
        have q0 : ∃ o, ops[0]? = some o ∧ o.guard = none ∧ o.dst = some 46 ∧ o.op = .move (.tmp 6) := ⟨_, by rw [hops]; rfl, rfl, rfl, rfl⟩
        have q1 : ∃ o, ops[1]? = some o ∧ o.guard = none ∧ o.dst = some 47 ∧ o.op = .move (.tmp 0) := ⟨_, by rw [hops]; rfl, rfl, rfl, rfl⟩
        have q2 : ∃ o, ops[2]? = some o ∧ o.guard = none ∧ o.dst = some 48 ∧ o.op = .move (.tmp 9) := ⟨_, by rw [hops]; rfl, rfl, rfl, rfl⟩
        have q3 : ∃ o, ops[3]? = some o ∧ o.guard = none ∧ o.dst = some 49 ∧ o.op = .indexAddr 22 (.tmp 47) (.tmp 48) := ⟨_, by rw [hops]; rfl, rfl, rfl, rfl⟩
        have q4 : ∃ o, ops[4]? = some o ∧ o.guard = none ∧ o.dst = some 50 ∧ o.op = .load 5 (.tmp 49) := ⟨_, by rw [hops]; rfl, rfl, rfl, rfl⟩
        have q5 : ∃ o, ops[5]? = some o ∧ o.guard = none ∧ o.dst = some 51 ∧ o.op = .buildSlice 22 1 #[(0, .tmp 50)] := ⟨_, by rw [hops]; rfl, rfl, rfl, rfl⟩
        have q6 : ∃ o, ops[6]? = some o ∧ o.guard = none ∧ o.dst = some 52 ∧ o.op = .call { callee := .builtin .append, args := #[.tmp 46, .tmp 51], argTypes := #[22, 22] } := ⟨_, by rw [hops]; rfl, rfl, rfl, rfl⟩
        have q7 : ∃ o, ops[7]? = some o ∧ o.guard = none ∧ o.dst = some 53 ∧ o.op = .move (.tmp 7) := ⟨_, by rw [hops]; rfl, rfl, rfl, rfl⟩
        have q8 : ∃ o, ops[8]? = some o ∧ o.guard = none ∧ o.dst = some 54 ∧ o.op = .move (.tmp 10) := ⟨_, by rw [hops]; rfl, rfl, rfl, rfl⟩
        have q9 : ∃ o, ops[9]? = some o ∧ o.guard = none ∧ o.dst = some 55 ∧ o.op = .buildSlice 22 1 #[(0, .tmp 54)] := ⟨_, by rw [hops]; rfl, rfl, rfl, rfl⟩
        have q10 : ∃ o, ops[10]? = some o ∧ o.guard = none ∧ o.dst = some 56 ∧ o.op = .call { callee := .builtin .append, args := #[.tmp 53, .tmp 55], argTypes := #[22, 22] } := ⟨_, by rw [hops]; rfl, rfl, rfl, rfl⟩
        have q11 : ∃ o, ops[11]? = some o ∧ o.guard = none ∧ o.dst = some 57 ∧ o.op = .move (.tmp 8) := ⟨_, by rw [hops]; rfl, rfl, rfl, rfl⟩
        have q12 : ∃ o, ops[12]? = some o ∧ o.guard = none ∧ o.dst = some 58 ∧ o.op = .move (.tmp 0) := ⟨_, by rw [hops]; rfl, rfl, rfl, rfl⟩
        have q13 : ∃ o, ops[13]? = some o ∧ o.guard = none ∧ o.dst = some 59 ∧ o.op = .move (.tmp 9) := ⟨_, by rw [hops]; rfl, rfl, rfl, rfl⟩
        have q14 : ∃ o, ops[14]? = some o ∧ o.guard = none ∧ o.dst = some 60 ∧ o.op = .indexAddr 22 (.tmp 58) (.tmp 59) := ⟨_, by rw [hops]; rfl, rfl, rfl, rfl⟩
        have q15 : ∃ o, ops[15]? = some o ∧ o.guard = none ∧ o.dst = some 61 ∧ o.op = .load 5 (.tmp 60) := ⟨_, by rw [hops]; rfl, rfl, rfl, rfl⟩
        have q16 : ∃ o, ops[16]? = some o ∧ o.guard = none ∧ o.dst = some 62 ∧ o.op = .move (.tmp 10) := ⟨_, by rw [hops]; rfl, rfl, rfl, rfl⟩
        have q17 : ∃ o, ops[17]? = some o ∧ o.guard = none ∧ o.dst = some 63 ∧ o.op = .binOp .add 5 (.tmp 61) (.tmp 62) 5 := ⟨_, by rw [hops]; rfl, rfl, rfl, rfl⟩
        have q18 : ∃ o, ops[18]? = some o ∧ o.guard = none ∧ o.dst = some 64 ∧ o.op = .buildSlice 22 1 #[(0, .tmp 63)] := ⟨_, by rw [hops]; rfl, rfl, rfl, rfl⟩
        have q19 : ∃ o, ops[19]? = some o ∧ o.guard = none ∧ o.dst = some 65 ∧ o.op = .call { callee := .builtin .append, args := #[.tmp 57, .tmp 64], argTypes := #[22, 22] } := ⟨_, by rw [hops]; rfl, rfl, rfl, rfl⟩
        have q20 : ∃ o, ops[20]? = some o ∧ o.guard = none ∧ o.dst = some 6 ∧ o.op = .assign (.tmp 52) := ⟨_, by rw [hops]; rfl, rfl, rfl, rfl⟩
        have q21 : ∃ o, ops[21]? = some o ∧ o.guard = none ∧ o.dst = some 7 ∧ o.op = .assign (.tmp 56) := ⟨_, by rw [hops]; rfl, rfl, rfl, rfl⟩
        have q22 : ∃ o, ops[22]? = some o ∧ o.guard = none ∧ o.dst = some 8 ∧ o.op = .assign (.tmp 65) := ⟨_, by rw [hops]; rfl, rfl, rfl, rfl⟩
        have e3 : chk ops 3 [1, 2] = true := by rw [hops]; kernel_rfl
        have e4 : chk ops 4 [3] = true := by rw [hops]; kernel_rfl
        have e5 : chk ops 5 [4] = true := by rw [hops]; kernel_rfl
        have e6 : chk ops 6 [0, 5] = true := by rw [hops]; kernel_rfl
        have e9 : chk ops 9 [8] = true := by rw [hops]; kernel_rfl
        have e10 : chk ops 10 [7, 9] = true := by rw [hops]; kernel_rfl
        have e14 : chk ops 14 [12, 13] = true := by rw [hops]; kernel_rfl
        have e15 : chk ops 15 [14] = true := by rw [hops]; kernel_rfl
        have e17 : chk ops 17 [15, 16] = true := by rw [hops]; kernel_rfl
        have e18 : chk ops 18 [17] = true := by rw [hops]; kernel_rfl
        have e19 : chk ops 19 [11, 18] = true := by rw [hops]; kernel_rfl
        have e20 : chk ops 20 [0, 1, 2, 3, 4, 5, 6] = true := by rw [hops]; kernel_rfl
        have e21 : chk ops 21 [0, 1, 2, 3, 4, 5, 6, 7, 8, 9, 10] = true := by rw [hops]; kernel_rfl
        have e22 : chk ops 22 [0, 1, 2, 3, 4, 5, 6, 7, 8, 9, 10, 11, 12, 13, 14, 15, 16, 17, 18, 19] = true := by rw [hops]; kernel_rfl
        have v0 : a0.eval (.tmp 0) = .slice (some ⟨b0, o0, none⟩) n0 c0 := by rw [ha0]; rfl
        have v9 : a0.eval (.tmp 9) = .int .i64 (i : Int) := by rw [ha0]; rfl
        have v10 : a0.eval (.tmp 10) = .int .u8 ((addOwn x y).toNat : Int) := by rw [ha0]; rfl
        have v6 : a0.eval (.tmp 6) = .slice (some ⟨g1, 0, none⟩) i d1 := by rw [ha0]; rfl
        have v7 : a0.eval (.tmp 7) = .slice (some ⟨g2, 0, none⟩) i d2 := by rw [ha0]; rfl
        have v8 : a0.eval (.tmp 8) = .slice (some ⟨g3, 0, none⟩) i d3 := by rw [ha0]; rfl
        obtain ⟨J, hJ⟩ : ∃ J : Jst, J = { base := w.heap.size, g1 := g1, c1 := d1, xs1 := (zs.take i).map (·.1), x1 := x, g2 := g2, c2 := d2, xs2 := (zs.take i).map addQ, x2 := addOwn x y, g3 := g3, c3 := d3, xs3 := (zs.take i).map addB, x3 := addBoth x y, V6 := .slice (some ⟨g1, 0, none⟩) i d1, V7 := .slice (some ⟨g2, 0, none⟩) i d2, V8 := .slice (some ⟨g3, 0, none⟩) i d3, tab := tabV (.slice (some ⟨b0, o0, none⟩) n0 c0) (.slice (some ⟨g1, 0, none⟩) i d1) (.slice (some ⟨g2, 0, none⟩) i d2) (.slice (some ⟨g3, 0, none⟩) i d3) (.int .i64 (i : Int)) (.pointer (some ⟨b0, o0 + i, none⟩)) (.int .u8 (x.toNat : Int)) (.int .u8 ((addOwn x y).toNat : Int)) (.int .u8 ((addBoth x y).toNat : Int)) } := ⟨_, rfl⟩
        have hzi : (zs.take i).length = i := by rw [List.length_take, HZL.out]; omega
        have nd : addDs.Nodup := by decide
        have ev : ∀ s t, t ∈ addDs → t < 110 → (puts a0 addDs s).eval (.tmp t) = s t := fun s t ht hs => puts_in a0 ht nd (by rw [hat]; exact hs)
        have eo : ∀ s t, t ∉ addDs → (puts a0 addDs s).eval (.tmp t) = a0.eval (.tmp t) := fun s t ht => puts_out a0 ht
        have fin : ∀ {l : Array Bool} {s : Nat → Value} {o : Oper} {t : Nat} {v : Value} {W : World}, o.dst = some t → t ∈ addDs → Inv J w l (upd s t v) W → ∃ s', (puts a0 addDs s).put o.dst v = puts a0 addDs s' ∧ Inv J w l s' W := fun hd ht hI => ⟨_, by rw [hd]; exact puts_put a0 ht nd, hI⟩
        refine wpAny_inv (fun l a' w' => ∃ s, a' = puts a0 addDs s ∧ Inv J w l s w') ?_ (back_of hback) ?_ ?_ _ _ _ _ ?_ ?_
        · rintro l a' w' ⟨s, _, h⟩
          rw [hsz]; exact h.size
        · rintro l a' w' ⟨s, rfl, h⟩ hall
          rw [hsz] at hall
          obtain ⟨r1, r2, r3, k1, k2, k3, T⟩ := h.tri
          obtain ⟨f1, ef1, of1⟩ := T.c1.don (hall 6 (by omega))
          obtain ⟨f2, ef2, of2⟩ := T.c2.don (hall 10 (by omega))
          obtain ⟨f3, ef3, of3⟩ := T.c3.don (hall 19 (by omega))
          have s6 : s 6 = .slice (some ⟨r1, 0, none⟩) (i + 1) f1 := by
            have h1 := h.a6
            rw [hall 20 (by omega), if_pos rfl] at h1
            rw [h1]
            refine ef1.trans ?_
            unfold Jst.D1
            rw [hJ]
            simp only [List.length_map, hzi]
          have s7 : s 7 = .slice (some ⟨r2, 0, none⟩) (i + 1) f2 := by
            have h1 := h.a7
            rw [hall 21 (by omega), if_pos rfl] at h1
            rw [h1]
            refine ef2.trans ?_
            unfold Jst.D2
            rw [hJ]
            simp only [List.length_map, hzi]
          have s8 : s 8 = .slice (some ⟨r3, 0, none⟩) (i + 1) f3 := by
            have h1 := h.a8
            rw [hall 22 (by omega), if_pos rfl] at h1
            rw [h1]
            refine ef3.trans ?_
            unfold Jst.D3
            rw [hJ]
            simp only [List.length_map, hzi]
          have htk : zs.take (i + 1) = zs.take i ++ [(x, y)] := by
            have hzx : zs[i]? = some (x, y) := by rw [HZ.out, List.getElem?_zip_eq_some]; exact ⟨HX.out, HY.out⟩
            rw [List.take_add_one, hzx]; rfl
          have OW : Hid (Own w' w.heap.size r1 f1 ((zs.take (i + 1)).map (·.1)) ∧ Own w' w.heap.size r2 f2 ((zs.take (i + 1)).map addQ) ∧ Own w' w.heap.size r3 f3 ((zs.take (i + 1)).map addB)) := by
            rw [htk, List.map_append, List.map_append, List.map_append]
            unfold Jst.D1 at of1
            unfold Jst.D2 at of2
            unfold Jst.D3 at of3
            rw [hJ] at of1 of2 of3
            exact ⟨of1, of2, of3⟩
          have GG : Hid (r1 ≠ r2 ∧ r1 ≠ r3 ∧ r2 ≠ r3) := ⟨T.r12, T.r13, T.r23⟩
          have BB : Hid (Below w.heap.size w w') := by have hb := h.bel; rw [hJ] at hb; exact hb
          clear T ef1 ef2 ef3 of1 of2 of3 h hall htk hJ fin ev eo nd e3 e4 e5 e6 e9 e10 e14 e15 e17 e18 e19 e20 e21 e22 q0 q1 q2 q3 q4 q5 q6 q7 q8 q9 q10 q11 q12 q13 q14 q15 q16 q17 q18 q19 q20 q21 q22 hback hsz hat v0 v6 v7 v8 v9 v10
          rw [ha0]
          simp only [puts, addDs, Act.put, List.setIfInBounds_toArray, List.set_cons_zero, List.set_cons_succ]
          rw [s6, s7, s8]
          clear ha0 hops s6 s7 s8 w1 w2 w3 w4 hmod
          generalize s 46 = u46, s 47 = u47, s 48 = u48, s 49 = u49, s 50 = u50, s 51 = u51, s 52 = u52, s 53 = u53, s 54 = u54, s 55 = u55, s 56 = u56, s 57 = u57, s 58 = u58, s 59 = u59, s 60 = u60, s 61 = u61, s 62 = u62, s 63 = u63, s 64 = u64, s 65 = u65
          go_wp2_with fail
          go_roundg (gk - 1)
          case measure => have := HI.out; omega
          case rel => exact ⟨i + 1, r1, f1, r2, f2, r3, f3, by have := HI.out; omega, by go_num, rfl, rfl, rfl, OW, GG, BB⟩
        · rintro l a' w' ⟨s, rfl, h⟩ k hk
          have hu := (mem_ready.1 hk).1
          have hk23 : k < 23 := by
            obtain ⟨_, o, ho, _⟩ := mem_ready.1 hk
            have := (Array.getElem?_eq_some_iff.1 ho).1
            omega
          have cases23 : k = 0 ∨ k = 1 ∨ k = 2 ∨ k = 3 ∨ k = 4 ∨ k = 5 ∨ k = 6 ∨ k = 7 ∨ k = 8 ∨ k = 9 ∨ k = 10 ∨ k = 11 ∨ k = 12 ∨ k = 13 ∨ k = 14 ∨ k = 15 ∨ k = 16 ∨ k = 17 ∨ k = 18 ∨ k = 19 ∨ k = 20 ∨ k = 21 ∨ k = 22 := by omega
          have tv : ∀ j v, J.tab j = some v → l.getD j false = true → s (46 + j) = v := h.val
          have cx : w'.cell? ⟨b0, o0 + i, none⟩ = some (.int .u8 (x.toNat : Int)) := by
            have hb := h.bel
            rw [hJ] at hb
            exact ((hb.cell (p := ⟨b0, o0 + i, none⟩) hb0).trans ((HB.out.cell (p := ⟨b0, o0 + i, none⟩) hb0).symm)).trans hcx
          rcases cases23 with rfl | rfl | rfl | rfl | rfl | rfl | rfl | rfl | rfl | rfl | rfl | rfl | rfl | rfl | rfl | rfl | rfl | rfl | rfl | rfl | rfl | rfl | rfl
          · obtain ⟨o, r1, r2, r3, r4⟩ := q0
            have hx : (puts a0 addDs s).eval (.tmp 6) = .slice (some ⟨g1, 0, none⟩) i d1 := by
              have h1 : l.getD 20 false = false := by
                cases e : l.getD 20 false with
                | false => rfl
                | true => have := h.t20 e 0 (by decide); rw [(getD_tf hu).2] at this; cases this
              have h2 := h.a6
              rw [h1] at h2
              rw [ev s 6 (by decide) (by decide), h2, hJ]
              rfl
            exact op_val r1 r2 (run_move (.inl r4) hx) (fin r3 (by decide) (h.pure 0 _ (by rw [hJ]; rfl) (by decide) hu ⟨by decide, by decide, by decide, by decide, by decide, by decide⟩))
          · obtain ⟨o, r1, r2, r3, r4⟩ := q1
            have hx := (eo s 0 (by decide)).trans v0
            exact op_val r1 r2 (run_move (.inl r4) hx) (fin r3 (by decide) (h.pure 1 _ (by rw [hJ]; rfl) (by decide) hu ⟨by decide, by decide, by decide, by decide, by decide, by decide⟩))
          · obtain ⟨o, r1, r2, r3, r4⟩ := q2
            have hx := (eo s 9 (by decide)).trans v9
            exact op_val r1 r2 (run_move (.inl r4) hx) (fin r3 (by decide) (h.pure 2 _ (by rw [hJ]; rfl) (by decide) hu ⟨by decide, by decide, by decide, by decide, by decide, by decide⟩))
          · obtain ⟨o, r1, r2, r3, r4⟩ := q3
            have hx := (ev s 47 (by decide) (by decide)).trans (tv 1 _ (by rw [hJ]; rfl) (ready_pre hk [1, 2] e3 1 (by decide)))
            have hy := (ev s 48 (by decide) (by decide)).trans (tv 2 _ (by rw [hJ]; rfl) (ready_pre hk [1, 2] e3 2 (by decide)))
            exact op_val r1 r2 (run_idx r4 hx hy p2) (fin r3 (by decide) (h.pure 3 _ (by rw [hJ]; rfl) (by decide) hu ⟨by decide, by decide, by decide, by decide, by decide, by decide⟩))
          · obtain ⟨o, r1, r2, r3, r4⟩ := q4
            have hx := (ev s 49 (by decide) (by decide)).trans (tv 3 _ (by rw [hJ]; rfl) (ready_pre hk [3] e4 3 (by decide)))
            exact op_val r1 r2 (run_ld r4 hx cx) (fin r3 (by decide) (h.pure 4 _ (by rw [hJ]; rfl) (by decide) hu ⟨by decide, by decide, by decide, by decide, by decide, by decide⟩))
          · obtain ⟨o, r1, r2, r3, r4⟩ := q5
            have hx := (ev s 50 (by decide) (by decide)).trans (tv 4 _ (by rw [hJ]; rfl) (ready_pre hk [4] e5 4 (by decide)))
            have hI := h.lay1 (by rw [hJ]; rfl) hu
            rw [show J.x1 = x by rw [hJ]] at hI
            exact op_val r1 r2 (run_ly (z := x) r4 hx) (fin r3 (by decide) hI)
          · obtain ⟨o, r1, r2, r3, r4⟩ := q6
            have hx := (ev s 46 (by decide) (by decide)).trans (tv 0 _ (by rw [hJ]; rfl) (ready_pre hk [0, 5] e6 0 (by decide)))
            have hy := ev s 51 (by decide) (by decide)
            obtain ⟨v, W', hrun, hI⟩ := h.app1 info5 (by rw [hJ]; rfl) hu (ready_pre hk [0, 5] e6 5 (by decide)) 22 o.type Try.underlying22 (by rw [hJ]; simp only [List.length_map, hzi]; omega)
            rw [show (.slice (some ⟨J.g1, 0, none⟩) J.xs1.length J.c1 : Value) = .slice (some ⟨g1, 0, none⟩) i d1 by rw [hJ]; simp only [List.length_map, hzi]] at hrun
            exact op_val r1 r2 (run_ap r4 hx hy hrun) (fin r3 (by decide) hI)
          · obtain ⟨o, r1, r2, r3, r4⟩ := q7
            have hx : (puts a0 addDs s).eval (.tmp 7) = .slice (some ⟨g2, 0, none⟩) i d2 := by
              have h1 : l.getD 21 false = false := by
                cases e : l.getD 21 false with
                | false => rfl
                | true => have := h.t21 e 7 (by decide); rw [(getD_tf hu).2] at this; cases this
              have h2 := h.a7
              rw [h1] at h2
              rw [ev s 7 (by decide) (by decide), h2, hJ]
              rfl
            exact op_val r1 r2 (run_move (.inl r4) hx) (fin r3 (by decide) (h.pure 7 _ (by rw [hJ]; rfl) (by decide) hu ⟨by decide, by decide, by decide, by decide, by decide, by decide⟩))
          · obtain ⟨o, r1, r2, r3, r4⟩ := q8
            have hx := (eo s 10 (by decide)).trans v10
            exact op_val r1 r2 (run_move (.inl r4) hx) (fin r3 (by decide) (h.pure 8 _ (by rw [hJ]; rfl) (by decide) hu ⟨by decide, by decide, by decide, by decide, by decide, by decide⟩))
          · obtain ⟨o, r1, r2, r3, r4⟩ := q9
            have hx := (ev s 54 (by decide) (by decide)).trans (tv 8 _ (by rw [hJ]; rfl) (ready_pre hk [8] e9 8 (by decide)))
            have hI := h.lay2 (by rw [hJ]; rfl) hu
            rw [show J.x2 = addOwn x y by rw [hJ]] at hI
            exact op_val r1 r2 (run_ly (z := addOwn x y) r4 hx) (fin r3 (by decide) hI)
          · obtain ⟨o, r1, r2, r3, r4⟩ := q10
            have hx := (ev s 53 (by decide) (by decide)).trans (tv 7 _ (by rw [hJ]; rfl) (ready_pre hk [7, 9] e10 7 (by decide)))
            have hy := ev s 55 (by decide) (by decide)
            obtain ⟨v, W', hrun, hI⟩ := h.app2 info5 (by rw [hJ]; rfl) hu (ready_pre hk [7, 9] e10 9 (by decide)) 22 o.type Try.underlying22 (by rw [hJ]; simp only [List.length_map, hzi]; omega)
            rw [show (.slice (some ⟨J.g2, 0, none⟩) J.xs2.length J.c2 : Value) = .slice (some ⟨g2, 0, none⟩) i d2 by rw [hJ]; simp only [List.length_map, hzi]] at hrun
            exact op_val r1 r2 (run_ap r4 hx hy hrun) (fin r3 (by decide) hI)
          · obtain ⟨o, r1, r2, r3, r4⟩ := q11
            have hx : (puts a0 addDs s).eval (.tmp 8) = .slice (some ⟨g3, 0, none⟩) i d3 := by
              have h1 : l.getD 22 false = false := by
                cases e : l.getD 22 false with
                | false => rfl
                | true => have := h.t22 e 11 (by decide); rw [(getD_tf hu).2] at this; cases this
              have h2 := h.a8
              rw [h1] at h2
              rw [ev s 8 (by decide) (by decide), h2, hJ]
              rfl
            exact op_val r1 r2 (run_move (.inl r4) hx) (fin r3 (by decide) (h.pure 11 _ (by rw [hJ]; rfl) (by decide) hu ⟨by decide, by decide, by decide, by decide, by decide, by decide⟩))
          · obtain ⟨o, r1, r2, r3, r4⟩ := q12
            have hx := (eo s 0 (by decide)).trans v0
            exact op_val r1 r2 (run_move (.inl r4) hx) (fin r3 (by decide) (h.pure 12 _ (by rw [hJ]; rfl) (by decide) hu ⟨by decide, by decide, by decide, by decide, by decide, by decide⟩))
          · obtain ⟨o, r1, r2, r3, r4⟩ := q13
            have hx := (eo s 9 (by decide)).trans v9
            exact op_val r1 r2 (run_move (.inl r4) hx) (fin r3 (by decide) (h.pure 13 _ (by rw [hJ]; rfl) (by decide) hu ⟨by decide, by decide, by decide, by decide, by decide, by decide⟩))
          · obtain ⟨o, r1, r2, r3, r4⟩ := q14
            have hx := (ev s 58 (by decide) (by decide)).trans (tv 12 _ (by rw [hJ]; rfl) (ready_pre hk [12, 13] e14 12 (by decide)))
            have hy := (ev s 59 (by decide) (by decide)).trans (tv 13 _ (by rw [hJ]; rfl) (ready_pre hk [12, 13] e14 13 (by decide)))
            exact op_val r1 r2 (run_idx r4 hx hy p2) (fin r3 (by decide) (h.pure 14 _ (by rw [hJ]; rfl) (by decide) hu ⟨by decide, by decide, by decide, by decide, by decide, by decide⟩))
          · obtain ⟨o, r1, r2, r3, r4⟩ := q15
            have hx := (ev s 60 (by decide) (by decide)).trans (tv 14 _ (by rw [hJ]; rfl) (ready_pre hk [14] e15 14 (by decide)))
            exact op_val r1 r2 (run_ld r4 hx cx) (fin r3 (by decide) (h.pure 15 _ (by rw [hJ]; rfl) (by decide) hu ⟨by decide, by decide, by decide, by decide, by decide, by decide⟩))
          · obtain ⟨o, r1, r2, r3, r4⟩ := q16
            have hx := (eo s 10 (by decide)).trans v10
            exact op_val r1 r2 (run_move (.inl r4) hx) (fin r3 (by decide) (h.pure 16 _ (by rw [hJ]; rfl) (by decide) hu ⟨by decide, by decide, by decide, by decide, by decide, by decide⟩))
          · obtain ⟨o, r1, r2, r3, r4⟩ := q17
            have hx := (ev s 61 (by decide) (by decide)).trans (tv 15 _ (by rw [hJ]; rfl) (ready_pre hk [15, 16] e17 15 (by decide)))
            have hy := (ev s 62 (by decide) (by decide)).trans (tv 16 _ (by rw [hJ]; rfl) (ready_pre hk [15, 16] e17 16 (by decide)))
            exact op_val r1 r2 (run_ad (z := addBoth x y) r4 hx hy (by rw [IntKind.wrap_u8]; have := HO3.out; have := HO1.out; omega)) (fin r3 (by decide) (h.pure 17 _ (by rw [hJ]; rfl) (by decide) hu ⟨by decide, by decide, by decide, by decide, by decide, by decide⟩))
          · obtain ⟨o, r1, r2, r3, r4⟩ := q18
            have hx := (ev s 63 (by decide) (by decide)).trans (tv 17 _ (by rw [hJ]; rfl) (ready_pre hk [17] e18 17 (by decide)))
            have hI := h.lay3 (by rw [hJ]; rfl) hu
            rw [show J.x3 = addBoth x y by rw [hJ]] at hI
            exact op_val r1 r2 (run_ly (z := addBoth x y) r4 hx) (fin r3 (by decide) hI)
          · obtain ⟨o, r1, r2, r3, r4⟩ := q19
            have hx := (ev s 57 (by decide) (by decide)).trans (tv 11 _ (by rw [hJ]; rfl) (ready_pre hk [11, 18] e19 11 (by decide)))
            have hy := ev s 64 (by decide) (by decide)
            obtain ⟨v, W', hrun, hI⟩ := h.app3 info5 (by rw [hJ]; rfl) hu (ready_pre hk [11, 18] e19 18 (by decide)) 22 o.type Try.underlying22 (by rw [hJ]; simp only [List.length_map, hzi]; omega)
            rw [show (.slice (some ⟨J.g3, 0, none⟩) J.xs3.length J.c3 : Value) = .slice (some ⟨g3, 0, none⟩) i d3 by rw [hJ]; simp only [List.length_map, hzi]] at hrun
            exact op_val r1 r2 (run_ap r4 hx hy hrun) (fin r3 (by decide) hI)
          · obtain ⟨o, r1, r2, r3, r4⟩ := q20
            have hx := ev s 52 (by decide) (by decide)
            have hall : ∀ j, j < 7 → l.getD j false = true := fun j hj => ready_pre hk [0, 1, 2, 3, 4, 5, 6] e20 j (by have : j ∈ List.range 7 := List.mem_range.2 hj; simpa [List.range, List.range.loop] using this)
            exact op_val r1 r2 (run_move (.inr r4) hx) (fin r3 (by decide) (h.asg 20 6 (by decide) hu hall (fun j hj => by rw [hJ]; show tabV _ _ _ _ _ _ _ _ _ j = none; unfold tabV; split <;> first | omega | rfl) _ rfl))
          · obtain ⟨o, r1, r2, r3, r4⟩ := q21
            have hx := ev s 56 (by decide) (by decide)
            have hall : ∀ j, j < 11 → l.getD j false = true := fun j hj => ready_pre hk [0, 1, 2, 3, 4, 5, 6, 7, 8, 9, 10] e21 j (by have : j ∈ List.range 11 := List.mem_range.2 hj; simpa [List.range, List.range.loop] using this)
            exact op_val r1 r2 (run_move (.inr r4) hx) (fin r3 (by decide) (h.asg 21 7 (by decide) hu hall (fun j hj => by rw [hJ]; show tabV _ _ _ _ _ _ _ _ _ j = none; unfold tabV; split <;> first | omega | rfl) _ rfl))
          · obtain ⟨o, r1, r2, r3, r4⟩ := q22
            have hx := ev s 65 (by decide) (by decide)
            have hall : ∀ j, j < 20 → l.getD j false = true := fun j hj => ready_pre hk [0, 1, 2, 3, 4, 5, 6, 7, 8, 9, 10, 11, 12, 13, 14, 15, 16, 17, 18, 19] e22 j (by have : j ∈ List.range 20 := List.mem_range.2 hj; simpa [List.range, List.range.loop] using this)
            exact op_val r1 r2 (run_move (.inr r4) hx) (fin r3 (by decide) (h.asg 22 8 (by decide) hu hall (fun j hj => by rw [hJ]; show tabV _ _ _ _ _ _ _ _ _ j = none; unfold tabV; split <;> first | omega | rfl) _ rfl))
        · refine ⟨fun t => a0.eval (.tmp t), (puts_id a0).symm, ?_⟩
          have fl : ∀ j, (Array.replicate ops.size false).getD j false = false := fun j => by
            rw [Array.getD_eq_getD_getElem?, Array.getElem?_replicate]; split <;> rfl
          obtain ⟨oo1, oo2, oo3⟩ := HO.out
          have gg := HG.out
          refine ⟨by simp [hsz], (fun e => by rw [fl] at e; cases e), (fun e => by rw [fl] at e; cases e), (fun e => by rw [fl] at e; cases e), (fun j v _ e => by rw [fl] at e; cases e), ?_, ?_, ?_, (fun e => by rw [fl] at e; cases e), (fun e => by rw [fl] at e; cases e), (fun e => by rw [fl] at e; cases e), ?_, ?_, ?_⟩
          · rw [fl, v6, hJ]; rfl
          · rw [fl, v7, hJ]; rfl
          · rw [fl, v8, hJ]; rfl
          · rw [hJ]
            unfold Jst.D1 Jst.D2 Jst.D3
            rw [fl, fl, fl, fl, fl, fl]
            exact ⟨g1, g2, g3, 0, 0, 0, ⟨fun _ => ⟨rfl, oo1.kept rfl⟩, (fun e => by cases e), (fun e => by cases e)⟩, ⟨fun _ => ⟨rfl, oo2.kept rfl⟩, (fun e => by cases e), (fun e => by cases e)⟩, ⟨fun _ => ⟨rfl, oo3.kept rfl⟩, (fun e => by cases e), (fun e => by cases e)⟩, gg.1, gg.2.1, gg.2.2, (fun p => by cases p.1), (fun p => by cases p.1), (fun p => by cases p.1)⟩
          · rw [hJ]; have hb := HB.out; exact ⟨hb.os, hb.tape, hb.output, hb.size, hb.block⟩
          · rw [hJ]; exact hsz'
        · rw [hsz]
          decide
      · obtain rfl : i = n := by omega
        have hfull : zs.take i = zs := List.take_of_length_le (by rw [HZL.out]; exact Nat.le_refl _)
        have oo := HO.out
        rw [hfull] at oo
        obtain ⟨oo1, oo2, oo3⟩ := oo
        have ea := Adl.a_added zs
        have eb := Adl.b_added zs i HZL.out
        have la := Adl.a_lt (zs.map (·.1))
        have lb := Adl.b_lt (zs.map (·.1))
        have lc := Adl.a_lt (zs.map addQ)
        have ld := Adl.b_lt (zs.map addQ)
        have l1 : i = (zs.map (·.1)).length := by rw [List.length_map, HZL.out]
        have l2 : i = (zs.map addQ).length := by rw [List.length_map, HZL.out]
        have l3 : i = (zs.map addB).length := by rw [List.length_map, HZL.out]
        have L1 := Lib.hid l1
        have L2 := Lib.hid l2
        have L3 := Lib.hid l3
        have EA := Lib.hid ea
        have EB := Lib.hid eb
        clear hfull l1 l2 l3 ea eb
        go_wp2_with fail
        refine (adler_any (some ⟨g1, 0, none⟩) i d1 (zs.map (·.1)) wr L1.out oo1.rd (by rw [← L1.out]; omega)).mono ?_
        rintro e w1 ⟨rfl, hb1⟩
        go_wp2_with fail
        refine (adler_any (some ⟨g2, 0, none⟩) i d2 (zs.map addQ) w1 L2.out ((oo2.rd.below hb1).mono hb1.size) (by rw [← L2.out]; omega)).mono ?_
        rintro e w2 ⟨rfl, hb2⟩
        have hb12 : Below wr.heap.size wr w2 := hb1.trans (hb2.mono hb1.size)
        go_wp2_with fail
        refine (adler_any (some ⟨g3, 0, none⟩) i d3 (zs.map addB) w2 L3.out ((oo3.rd.below hb12).mono hb12.size) (by rw [← L3.out]; omega)).mono ?_
        rintro e w3 ⟨rfl, hb3⟩
        have hfin : Below w.heap.size w w3 := (HB.out.trans (hb12.mono hsz')).trans (hb3.mono (Nat.le_trans hsz' hb12.size))
        generalize Adl.a (zs.map (·.1)) = a at *
        generalize Adl.b (zs.map (·.1)) = b at *
        generalize Adl.a (zs.map addQ) = c at *
        generalize Adl.b (zs.map addQ) = d at *
        generalize Adl.a (zs.map addB) = e at *
        generalize Adl.b (zs.map addB) = f at *
        have t1 : ((e : Int) == ((a : Int) + (c : Int) - 1) % 65521) = true := by rw [beq_iff_eq]; exact EA.out
        have t2 : ((f : Int) == ((b : Int) + (d : Int) - (i : Int)) % 65521) = true := by rw [beq_iff_eq]; exact EB.out
        clear oo1 oo2 oo3 hb1 hb2 hb3 hb12
        go_wp2_with fail
        refine (rest_any _ _ (by omega) (by omega)).mono ?_
        rintro e' w4 ⟨rfl, rfl⟩
        go_wp2_with fail
        refine (rest_any _ _ (by omega) (by omega)).mono ?_
        rintro e' w5 ⟨rfl, rfl⟩
        go_wp2_with fail
        go_ret
        exact ⟨rfl, hfin⟩

end Go.Proofs.Ytciadiaodceijaa

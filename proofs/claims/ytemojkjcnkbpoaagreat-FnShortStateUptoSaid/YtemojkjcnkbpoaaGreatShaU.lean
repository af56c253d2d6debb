/-
  SHA-3: Clone, Sum through its wrappers. No condition but a place below the rate.
-/
import Derived.Test.YtemojkjcnkbpoaaGreatShaT
import Derived.Test.YtemojkjcnkbpoaaGreatShaN
import Derived.Test.YtemojkjcnkbpoaaGreatApp
namespace Go.Proofs.YtemojkjcnkbpoaaGreat
open Go.RowKit
open Spo
set_option linter.unusedVariables false

theorem getInd (w : World) : (callFunc 75 #[]).run Tryz.prog w = .ok (.value (.int .u8 0)) w := by
  rw [run_callFunc_extern Tryz.func75 (by kernel_rfl) (by kernel_rfl) (by kernel_rfl) (e := fun _ => pure (.int .u8 0)) (by kernel_rfl)]
  rfl
theorem setInd (w : World) : (callFunc 76 #[.int .u8 2]).run Tryz.prog w = .ok (.value (.tuple #[])) w := by
  rw [run_callFunc_extern Tryz.func76 (by kernel_rfl) (by kernel_rfl) (by kernel_rfl) (e := fun _ => pure (.tuple #[])) (by kernel_rfl)]
  rfl

theorem record_any (w : World) : Calls Tryz.prog 71 #[] w fun e w' => e = .returned (.tuple #[]) ∧ w' = w := by
  have h1 := getInd w
  have h2 := setInd w
  go_enter Tryz.func71, Tryz.ntmps71
  go_wp2_with (first | simp only [h1] | simp only [h2])
  go_end0
  exact ⟨rfl, rfl⟩

set_option maxHeartbeats 1000000 in
theorem read_any {w : World} {h : Nat} {T : TypeId} {a : List UInt8} {n rate out st : Nat} {tl : List Value} (x : UInt8) (d : DG w h T a n rate x.toNat out st tl) (hst : st = 0 ∧ n < rate ∨ st = 1 ∧ n ≤ rate) (b o m c : Nat) (cs : Array Value) (Tb : TypeId)
    (hb : w.heap[b]? = some (.cells cs Tb (0, 0))) (hbh : b ≠ h) (hf : o + m ≤ cs.size) (hmc : m ≤ c) (hc : c ≤ 9223372036854775807) (h0 : 0 < rate) (hr : rate ≤ 200) :
    Calls Tryz.prog 80 #[.pointer (some ⟨h, 0, none⟩), .slice (some ⟨b, o, none⟩) m c] w fun e w' => e = .returned (.tuple #[.int .i64 (m : Int), .nilIface]) ∧
      DG w' h T (sqzS kf rate m (turned st a n rate x)).1 (sqzS kf rate m (turned st a n rate x)).2 rate x.toNat out 1 tl ∧
      w'.heap[b]? = some (.cells (cs.toList.take o ++ (sqz kf rate m (turned st a n rate x)).map bv ++ cs.toList.drop (o + m)).toArray Tb (0, 0)) ∧ Fr (fun k => k = h ∨ k = b) w w' := by
  have X := Lib.hid (readGeneric_any x d hst b o m c cs Tb hb hbh hf hmc hc h0 hr)
  clear d hst hb
  go_enter Tryz.func80, Tryz.ntmps80
  go_wp2_with fail
  refine X.out.mono ?_
  rintro e w1 ⟨rfl, D1, B1, F1⟩
  replace D1 := Lib.hid D1
  replace B1 := Lib.hid B1
  replace F1 := Lib.hid F1
  go_wp2_with fail
  go_ret2
  exact ⟨rfl, D1.out, B1.out, F1.out⟩

theorem dgL_one (a : List UInt8) (n rate ds out st : Nat) : ∀ v ∈ dgL a n rate ds out st [], v.oneCell' = true := by
  intro v hv
  unfold dgL at hv
  rw [List.append_nil, List.mem_append] at hv
  rcases hv with hv | hv
  · exact bv_one _ v hv
  · simp only [List.mem_cons, List.not_mem_nil, or_false] at hv
    rcases hv with rfl | rfl | rfl | rfl | rfl <;> rfl

set_option maxRecDepth 100000 in
theorem zero205 : Tryz.zeroCells91.size = 205 := by kernel_rfl

set_option maxRecDepth 100000 in
set_option maxHeartbeats 1000000 in
theorem clone_any {w : World} {h : Nat} {T : TypeId} {a : List UInt8} {n rate ds out st : Nat} (d : DG w h T a n rate ds out st []) :
    Calls Tryz.prog 79 #[.pointer (some ⟨h, 0, none⟩)] w fun e w' => e = .returned (.pointer (some ⟨w.heap.size, 0, none⟩)) ∧ DG w' w.heap.size 91 a n rate ds out st [] ∧ Below w.heap.size w w' ∧ w'.heap.size = w.heap.size + 1 := by
  obtain ⟨cs, hcs⟩ : ∃ cs, (dgL a n rate ds out st []).toArray = cs := ⟨_, rfl⟩
  have hz : cs.size = 205 := by rw [← hcs, List.size_toArray, dgL_len d.len]; rfl
  have hb := d.blk
  rw [hcs] at hb
  have L := load_dg w h T cs hb hz
  have HL := Lib.hid d.len
  have HC := Lib.hid hcs
  have hone : ∀ v ∈ cs.toList, v.oneCell' = true := by rw [← hcs, List.toList_toArray]; exact dgL_one _ _ _ _ _ _
  have hst := run_storeCells_at Tryz.prog w.heap.size 0 91 cs.toList 0 Tryz.zeroCells91 (w.alloc (.cells Tryz.zeroCells91 91)) (heap_alloc_new w _) (by rw [Array.length_toList, hz, zero205]; omega) hone
  have e0 : (Tryz.zeroCells91.toList.take (0 + 0) ++ cs.toList ++ Tryz.zeroCells91.toList.drop (0 + 0 + cs.toList.length)).toArray = cs := by
    rw [List.drop_eq_nil_of_le (by rw [Array.length_toList, Array.length_toList, hz, zero205]; omega)]
    simp
  rw [e0] at hst
  clear hb hcs d hone e0
  go_enter Tryz.func79, Tryz.ntmps79
  go_upto_region 1 with fail
  go_wp2_with (refine wpList_run_load1 rfl 91 (.tmp 5) rfl (.pointer (some ⟨h, 0, none⟩)) (.agg cs) rfl L ?_)
  go_ret
  refine ⟨rfl, ⟨?_, HL.out⟩, ?_, by simp⟩
  · rw [HC.out]
    exact setRow_heap (w.alloc (.cells Tryz.zeroCells91 91)) w.heap.size _ _ _ (0, 0) (heap_alloc_new w _)
  · exact ⟨rfl, rfl, rfl, by simp, fun k hk => (heap_setRow_other _ _ _ _ (by omega)).trans (Below.heap_alloc w _ _ hk)⟩

def row64 : Array Value := (List.replicate 64 (Value.int .u8 0)).toArray
theorem row64_size : row64.size = 64 := by unfold row64; rw [List.size_toArray, List.length_replicate]
def OutOk (out : Nat) : Prop := out = 28 ∨ out = 32 ∨ out = 48 ∨ out = 64
set_option maxRecDepth 100000 in
theorem make_out {out : Nat} (ho : OutOk out) (W : World) : (Instr.makeSlice 22 (.int .i64 (out : Int)) (.int .i64 64)).run Tryz.prog W = .ok (.slice (some ⟨W.heap.size, 0, none⟩) out 64) (W.alloc (.cells row64 5)) := by
  rcases ho with rfl | rfl | rfl | rfl <;> kernel_rfl

def shaSum (a : List UInt8) (n rate out : Nat) : List UInt8 := sqz kf rate out (kf (padA a n rate 6), 0)

set_option maxRecDepth 100000 in
set_option maxHeartbeats 2000000 in
theorem sumGeneric_any {w : World} {h : Nat} {T : TypeId} {a : List UInt8} {n rate out : Nat} (d : DG w h T a n rate 6 out 0 []) (hn : n < rate) (hr : rate ≤ 200) (ho : OutOk out) :
    Calls Tryz.prog 77 #[.pointer (some ⟨h, 0, none⟩), .slice none 0 0] w fun e w' => ∃ g c, e = .returned (.slice (some ⟨g, 0, none⟩) out c) ∧ Own w' w.heap.size g c (shaSum a n rate out) ∧ Below w.heap.size w w' := by
  have hmk := fun W => make_out ho W
  have hpos : 0 < out ∧ out ≤ 64 := by unfold OutOk at ho; omega
  obtain ⟨-, -, -, -, c4⟩ := d.cs
  have X := Lib.hid (clone_any d)
  have hle : (shaSum a n rate out).length = out := by unfold shaSum; rw [sqz_len]
  have HLE := Lib.hid hle
  clear d ho hle
  go_enter Tryz.func77, Tryz.ntmps77
  go_wp2_with fail
  refine X.out.mono ?_
  rintro e w1 ⟨rfl, D1, B1, z1⟩
  obtain ⟨-, -, -, c3, -⟩ := D1.cs
  obtain ⟨hd, hhd⟩ : ∃ hd, hd = w.heap.size := ⟨_, rfl⟩
  rw [← hhd] at D1 c3 ⊢
  have hdl := D1.lt
  have z1l : w.heap.size < w1.heap.size := by omega
  have HHD := Lib.hid hhd
  have HD1 := Lib.hid D1
  have HB1 := Lib.hid B1
  clear D1 B1 X hhd c4 z1
  go_wp2_with fail
  obtain ⟨V, hV⟩ : ∃ V, w1.alloc (.cells row64 5) = V := ⟨_, rfl⟩
  obtain ⟨gb, hgb⟩ : ∃ gb, gb = w1.heap.size := ⟨_, rfl⟩
  have DV : DG V hd 91 a n rate (6 : UInt8).toNat out 0 [] := by subst hV; exact HD1.out.keep (Below.heap_alloc _ _ _ hdl)
  have BV : V.heap[gb]? = some (.cells row64 5 (0, 0)) := by subst hV hgb; exact heap_alloc_new w1 _
  have sV : V.heap.size = gb + 1 := by subst hV hgb; simp
  have bwV : Below w.heap.size w V := by subst hV; exact HB1.out.alloc (by omega) _
  rw [hV, ← hgb]
  have X := Lib.hid (read_any 6 DV (.inl ⟨rfl, hn⟩) gb 0 out 64 row64 5 BV (by have := HHD.out; omega) (by rw [row64_size]; omega) hpos.2 (by omega) (by omega) hr)
  have HBWV := Lib.hid bwV
  have hgbl : w.heap.size < gb := by omega
  clear hV DV BV bwV c3 hgb hmk
  go_wp2_with fail
  refine X.out.mono ?_
  rintro e w2 ⟨rfl, -, B2, F2⟩
  have z2 := F2.size
  have bw2 : Below w.heap.size w w2 := HBWV.out.trans (F2.toBelow (B := w.heap.size) HBWV.out.size (fun k hk e => by have := HHD.out; rcases e with e | e <;> omega))
  have rd2 : Rd w2 w2.heap.size (some ⟨gb, 0, none⟩) (shaSum a n rate out) := by
    refine .inr ⟨gb, 0, rfl, by omega, fun i y hy => ?_⟩
    rw [cell_of_row w2 gb _ _ _ _ B2, List.getElem?_toArray, List.take_zero, List.nil_append]
    simp only [Nat.zero_add]
    have hi : i < (shaSum a n rate out).length := (List.getElem?_eq_some_iff.1 hy).1
    have e : turned 0 a n rate 6 = (kf (padA a n rate 6), 0) := by unfold turned; rw [if_pos rfl]
    rw [e, List.getElem?_append_left (by rw [List.length_map, sqz_len]; rw [HLE.out] at hi; exact hi), List.getElem?_map]
    unfold shaSum at hy
    rw [hy]
    rfl
  have HRD := Lib.hid rd2
  have HBW2 := Lib.hid bw2
  clear X B2 F2 rd2 bw2
  have hne : shaSum a n rate out ≠ [] := fun e => by have := HLE.out; rw [e] at this; simp at this; omega
  have hll : (shaSum a n rate out).length ≤ 200000000000000 := by have := HLE.out; omega
  have hbs : w.heap.size ≤ w2.heap.size := by omega
  go_wp2_with (at_builtin; refine wpList_append_nil_bytes rfl _ _ 22 rfl Tryz.underlying22 w.heap.size (shaSum a n rate out) out rfl w2.heap.size (some ⟨gb, 0, none⟩) 64 rfl HLE.out.symm HRD.out hne hll hbs ?_; intro g4 c5 w4 h1 h2; refine Hid.out ?_)
  refine Lib.hid ?_
  have hgr : Below w.heap.size w w4 := HBW2.out.grown h2 hbs (fun k hk => by cases hk)
  rw [HLE.out]
  have H1 := Lib.hid h1
  clear h1 h2
  go_wp2_with fail
  go_ret
  exact ⟨g4, c5, rfl, H1.out, hgr⟩

set_option maxHeartbeats 1000000 in
theorem sum_any {w : World} {h : Nat} {T : TypeId} {a : List UInt8} {n rate out : Nat} (d : DG w h T a n rate 6 out 0 []) (hn : n < rate) (hr : rate ≤ 200) (ho : OutOk out) :
    Calls Tryz.prog 72 #[.pointer (some ⟨h, 0, none⟩), .slice none 0 0] w fun e w' => ∃ g c, e = .returned (.slice (some ⟨g, 0, none⟩) out c) ∧ Own w' w.heap.size g c (shaSum a n rate out) ∧ Below w.heap.size w w' := by
  have X := Lib.hid (sumGeneric_any d hn hr ho)
  
  clear d ho
  go_enter Tryz.func72, Tryz.ntmps72
  go_wp2_with (first |  (go_at_call 77; refine X.out.mono ?_; rintro e w1 ⟨g, c, rfl, O1, B1⟩; replace O1 := Lib.hid O1; replace B1 := Lib.hid B1))
  go_ret
  exact ⟨g, c, rfl, O1.out, B1.out⟩

set_option maxHeartbeats 1000000 in
theorem dSum_any {w : World} {h : Nat} {T : TypeId} {a : List UInt8} {n rate out : Nat} (d : DG w h T a n rate 6 out 0 []) (hn : n < rate) (hr : rate ≤ 200) (ho : OutOk out) :
    Calls Tryz.prog 66 #[.pointer (some ⟨h, 0, none⟩), .slice none 0 0] w fun e w' => ∃ g c, e = .returned (.slice (some ⟨g, 0, none⟩) out c) ∧ Own w' w.heap.size g c (shaSum a n rate out) ∧ Below w.heap.size w w' := by
  have X := Lib.hid (sum_any d hn hr ho)
  have Y := Lib.hid (record_any w)
  clear d ho
  go_enter Tryz.func66, Tryz.ntmps66
  go_wp2_with (first | (go_at_call 71; refine Y.out.mono ?_; rintro e w0 ⟨rfl, rfl⟩) | (go_at_call 72; refine X.out.mono ?_; rintro e w1 ⟨g, c, rfl, O1, B1⟩; replace O1 := Lib.hid O1; replace B1 := Lib.hid B1))
  go_ret
  exact ⟨g, c, rfl, O1.out, B1.out⟩

set_option maxHeartbeats 1000000 in
theorem sSum_any {w : World} {h : Nat} {T : TypeId} {a : List UInt8} {n rate out : Nat} (d : DG w h T a n rate 6 out 0 []) (hn : n < rate) (hr : rate ≤ 200) (ho : OutOk out) :
    Calls Tryz.prog 61 #[.pointer (some ⟨h, 0, none⟩), .slice none 0 0] w fun e w' => ∃ g c, e = .returned (.slice (some ⟨g, 0, none⟩) out c) ∧ Own w' w.heap.size g c (shaSum a n rate out) ∧ Below w.heap.size w w' := by
  have X := Lib.hid (dSum_any d hn hr ho)
  have Y := Lib.hid (init_any d (by unfold OutOk at ho; omega))
  clear d ho
  go_enter Tryz.func61, Tryz.ntmps61
  go_wp2_with (first | (go_at_call 64; refine Y.out.mono ?_; rintro e w0 ⟨rfl, rfl⟩) | (go_at_call 66; refine X.out.mono ?_; rintro e w1 ⟨g, c, rfl, O1, B1⟩; replace O1 := Lib.hid O1; replace B1 := Lib.hid B1))
  go_ret
  exact ⟨g, c, rfl, O1.out, B1.out⟩

end Go.Proofs.YtemojkjcnkbpoaaGreat

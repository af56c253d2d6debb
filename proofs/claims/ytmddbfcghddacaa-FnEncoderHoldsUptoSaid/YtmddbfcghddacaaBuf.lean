/-
  bytes.Buffer: grow, and where the new row lies. Condition: it has only been written to, and holds at most 40000000 bytes.
-/
import Derived.Test.YtmddbfcghddacaaShelf
import Derived.Test.YtmddbfcghddacaaEncB
import Derived.Deep.RegionWith
import Derived.Lib.Walk
import Derived.Lib.BufferMore
namespace Go.Proofs.Ytmddbfcghddacaa
open Go.RowKit
set_option linter.unusedVariables false

/-- what grow leaves: a new row, with room for n more behind l bytes -/
structure GrownTo (w w' : World) (b l n : Nat) (xs : List Value) : Prop where
  ex : ∃ (g cap : Nat) (cur : Array Value) (lr : Int), w'.heap[b]? = some (.cells #[.slice (some ⟨g, 0, none⟩) (l + n) cap, .int .i64 0, .int .i8 lr] 34 (0, 0)) ∧ w'.heap[g]? = some (.cells cur 5 (0, 0)) ∧ cur.size = cap ∧ l + n ≤ cap ∧ cap ≤ maxLen ∧ cur.toList.take l = xs ∧ w.heap.size ≤ g ∧ Fr (fun k => k = b) w w'

theorem heap_set3 (w : World) (b : Nat) (v0 v1 v2 : Value) (T : TypeId) (h : w.heap[b]? = some (.cells #[v0, v1, v2] T (0, 0))) (u : Value) : (w.setCell ⟨b, 0, none⟩ u).heap[b]? = some (.cells #[u, v1, v2] T (0, 0)) := heap_set_same w b 0 _ _ _ h
theorem heap_set31 (w : World) (b : Nat) (v0 v1 v2 : Value) (T : TypeId) (h : w.heap[b]? = some (.cells #[v0, v1, v2] T (0, 0))) (u : Value) : (w.setCell ⟨b, 1, none⟩ u).heap[b]? = some (.cells #[v0, u, v2] T (0, 0)) := heap_set_same w b 1 _ _ _ h

set_option maxHeartbeats 6400000 in
set_option maxRecDepth 100000 in
theorem grow_small (b n : Nat) (lr : Int) (w : World) (hbk : w.heap[b]? = some (.cells #[.slice none 0 0, .int .i64 0, .int .i8 lr] 34 (0, 0))) (hn : 1 ≤ n) (h64 : n ≤ 64) :
    Calls Try.prog 37 #[.pointer (some ⟨b, 0, none⟩), .int .i64 n] w fun e w' => e = .returned (.int .i64 0) ∧ GrownTo w w' b 0 n [] := by
  obtain ⟨i0, hi, hz0, hz1, hz2⟩ := info_parts info5
  obtain ⟨M, hM⟩ : ∃ M, M = madeCells (Value.int .u8 0).cells ((64 : Int).toNat * i0.size) := ⟨_, rfl⟩
  have hMs : M.size = 64 := by rw [hM, size_madeCells, hz1]; rfl
  have hmk : ∀ W : World, (Instr.makeSlice 22 (.int .i64 (n : Int)) (.int .i64 64)).run Try.prog W = .ok (.slice (some ⟨W.heap.size, 0, none⟩) n 64) (W.alloc (.cells M 5)) := fun W => by
    have h := run_makeSlice (P := Try.prog) W 22 5 i0 (.int .u8 0) Try.underlying22 hi hz0 .i64 .i64 (n : Int) 64 (by omega) (by omega) (by rw [hz1]; decide) (by rw [hz2]; decide) (by decide)
    rw [← hM] at h
    simpa using h
  have HMS := Lib.hid hMs
  clear hM hMs
  have hIs : Lib.IsBuffer 34 5 0 b [] w := ⟨Nat.zero_le _, _, _, hbk, World.ownsRow_nil _ _ _ _, by simp [Value.ownBlock]⟩
  have hnil : ∀ W, (binOp .eql 22 (.slice none 0 0) (.slice none 0 0)).run Try.prog W = .ok (.bool true) W := fun W => Lib.run_eql_slice_nil_nil W _ _ Try.underlying22
  have HBK := Lib.hid hbk
  clear hbk
  go_enter Try.func37, Try.ntmps37
  go_wp2_with fail
  refine (Try.Buffer_Len 0 b [] w hIs).mono ?_
  rintro e W0 ⟨rfl, k, hW0⟩
  have hbk0 : W0.heap[b]? = some (.cells #[.slice none 0 0, .int .i64 0, .int .i8 lr] 34 (0, 0)) := by rw [hW0]; exact HBK.out
  have c0 : W0.cell? ⟨b, 0, none⟩ = some (.slice none 0 0) := by rw [Lib.cell_of_heap hbk0]; rfl
  have c1 : W0.cell? ⟨b, 1, none⟩ = some (.int .i64 0) := by rw [Lib.cell_of_heap hbk0]; rfl
  have f0 : W0.frozen? ⟨b, 0, none⟩ = false := Lib.frozen_of_heap hbk0 0
  have f1 : W0.frozen? ⟨b, 1, none⟩ = false := Lib.frozen_of_heap hbk0 1
  have hbW0 := Lib.lt_of_heap hbk0
  have c0a : ∀ o, (W0.alloc o).cell? ⟨b, 0, none⟩ = some (.slice none 0 0) := fun o => (World.cell?_of_block (a := ⟨b, 0, none⟩) (Below.heap_alloc W0 o b hbW0)).trans c0
  have f0a : ∀ o, (W0.alloc o).frozen? ⟨b, 0, none⟩ = false := fun o => (World.frozen?_of_block (a := ⟨b, 0, none⟩) (Below.heap_alloc W0 o b hbW0)).trans f0
  have HW0 := Lib.hid hW0
  have HBK0 := Lib.hid hbk0
  clear hW0 hIs hbk0
  go_wp2_with fail
  refine (Try.Buffer_tryGrow_none b _ 0 0 n _ c0 (Nat.le_refl _) (Nat.zero_le _) (by omega)).mono ?_
  rintro e w' ⟨rfl, rfl⟩
  go_wp2_with fail
  go_ret
  have hs0 : w'.heap.size = w.heap.size := by rw [HW0.out]; rfl
  have fw : Fr (fun k => k = b) w w' := by rw [HW0.out]; exact ⟨rfl, rfl, rfl, Nat.le_refl _, fun _ _ _ => rfl⟩
  refine ⟨rfl, ⟨w'.heap.size, 64, M, lr, ?_, ?_, HMS.out, by omega, by unfold maxLen; omega, by simp, by omega, ?_⟩⟩
  · rw [Below.heap_alloc _ _ _ (by simpa [World.setCell] using hbW0), Nat.zero_add]; exact heap_set3 w' b _ _ _ _ HBK0.out _
  · have := heap_alloc_new (w'.setCell ⟨b, 0, none⟩ (.slice (some ⟨w'.heap.size, 0, none⟩) n 64)) (.cells M 5)
    simpa [World.setCell] using this
  · exact (fw.setCell (p := ⟨b, 0, none⟩) rfl _).alloc _

theorem grow_fin {w w2 : World} {b l n N cap2 : Nat} {lr : Int} {v0 v1 : Value} {cells : Array Value} {xs : List Value} (hbk2 : w2.heap[b]? = some (.cells #[v0, .int .i64 0, .int .i8 lr] 34 (0, 0))) (hN : w2.heap[N]? = some (.cells cells 5 (0, 0))) (hNb : N ≠ b)
    (hcsz : cells.size = cap2) (htk : cells.toList.take l = xs) (hcap2 : l + n ≤ cap2) (hcm2 : cap2 ≤ maxLen) (hf : Fr (fun k => k = b) w w2) (hNw : w.heap.size ≤ N) :
    GrownTo w (((w2.setCell ⟨b, 0, none⟩ v1).setCell ⟨b, 1, none⟩ (.int .i64 0)).setCell ⟨b, 0, none⟩ (.slice (some ⟨N, 0, none⟩) (l + n) cap2)) b l n xs := by
  refine ⟨N, cap2, cells, lr, ?_, ?_, hcsz, hcap2, hcm2, htk, hNw, ?_⟩
  · exact heap_set3 _ b _ _ _ _ (heap_set31 _ b _ _ _ _ (heap_set3 w2 b _ _ _ _ hbk2 _) _) _
  · rw [Below.heap_setCell _ _ _ _ hNb, Below.heap_setCell _ _ _ _ hNb, Below.heap_setCell _ _ _ _ hNb]; exact hN
  · exact ((hf.setCell (p := ⟨b, 0, none⟩) rfl _).setCell (p := ⟨b, 1, none⟩) rfl _).setCell (p := ⟨b, 0, none⟩) rfl _

set_option maxHeartbeats 12800000 in
set_option maxRecDepth 100000 in
theorem grow_big (b n : Nat) (lr : Int) (w : World) (hbk : w.heap[b]? = some (.cells #[.slice none 0 0, .int .i64 0, .int .i8 lr] 34 (0, 0))) (h64 : 64 < n) (hlim : n ≤ 40000000) :
    Calls Try.prog 37 #[.pointer (some ⟨b, 0, none⟩), .int .i64 n] w fun e w' => e = .returned (.int .i64 0) ∧ GrownTo w w' b 0 n [] := by
  have hn : 1 ≤ n := by omega
  have hIs : Lib.IsBuffer 34 5 0 b [] w := ⟨Nat.zero_le _, _, _, hbk, World.ownsRow_nil _ _ _ _, by simp [Value.ownBlock]⟩
  have hnil : ∀ W, (binOp .eql 22 (.slice none 0 0) (.slice none 0 0)).run Try.prog W = .ok (.bool true) W := fun W => Lib.run_eql_slice_nil_nil W _ _ Try.underlying22
  have HBK := Lib.hid hbk
  clear hbk
  go_enter Try.func37, Try.ntmps37
  go_wp2_with fail
  refine (Try.Buffer_Len 0 b [] w hIs).mono ?_
  rintro e W0 ⟨rfl, k, hW0⟩
  have hbk0 : W0.heap[b]? = some (.cells #[.slice none 0 0, .int .i64 0, .int .i8 lr] 34 (0, 0)) := by rw [hW0]; exact HBK.out
  have c0 : W0.cell? ⟨b, 0, none⟩ = some (.slice none 0 0) := by rw [Lib.cell_of_heap hbk0]; rfl
  have c1 : W0.cell? ⟨b, 1, none⟩ = some (.int .i64 0) := by rw [Lib.cell_of_heap hbk0]; rfl
  have f0 : W0.frozen? ⟨b, 0, none⟩ = false := Lib.frozen_of_heap hbk0 0
  have f1 : W0.frozen? ⟨b, 1, none⟩ = false := Lib.frozen_of_heap hbk0 1
  have hbW := Lib.lt_of_heap hbk0
  have HW0 := Lib.hid hW0
  have HBK0 := Lib.hid hbk0
  clear hW0 hIs hbk0
  go_wp2_with fail
  refine (Try.Buffer_tryGrow_none b _ 0 0 n _ c0 (Nat.le_refl _) (Nat.zero_le _) (by omega)).mono ?_
  rintro e w' ⟨rfl, rfl⟩
  have hwn : IntKind.i64.wrap (n : Int) = n := by rw [IntKind.wrap_i64]; omega
  go_wp2_with fail
  go_region_with (
      go_at_call 39
      refine (Try.bytes_growSlice_nil n _ hn (by omega)).mono ?_
      rintro e w2 ⟨cap2, cells, rfl, hN, hcsz, hcap2, hcm2, hbel⟩
      have hbk2 : w2.heap[b]? = some (.cells #[.slice none 0 0, .int .i64 0, .int .i8 lr] 34 (0, 0)) := (hbel.block b hbW).trans HBK0.out
      have d0 : w2.cell? ⟨b, 0, none⟩ = some (.slice none 0 0) := by rw [Lib.cell_of_heap hbk2]; rfl
      have d1 : w2.cell? ⟨b, 1, none⟩ = some (.int .i64 0) := by rw [Lib.cell_of_heap hbk2]; rfl
      have e0 : w2.frozen? ⟨b, 0, none⟩ = false := Lib.frozen_of_heap hbk2 0
      have e1 : w2.frozen? ⟨b, 1, none⟩ = false := Lib.frozen_of_heap hbk2 1)
  all_goals (
    go_wp2
    go_ret
    have hs0 : w'.heap.size = w.heap.size := by rw [HW0.out]; rfl
    have fw : Fr (fun k => k = b) w w2 := by
      refine Fr.below (w := w'.drew) ?_ hbel
      rw [HW0.out]; exact ⟨rfl, rfl, rfl, Nat.le_refl _, fun _ _ _ => rfl⟩
    refine ⟨rfl, ?_⟩
    have := grow_fin (l := 0) (n := n) (xs := []) (v1 := .slice (some ⟨w'.heap.size, 0, none⟩) 0 cap2) hbk2 hN (by show w'.heap.size ≠ b; omega) hcsz (by simp) (by omega) hcm2 fw (by show w.heap.size ≤ w'.heap.size; omega)
    rw [Nat.zero_add] at this
    exact this)

set_option maxHeartbeats 12800000 in
set_option maxRecDepth 100000 in
theorem grow_row (b g l cap n : Nat) (lr : Int) (cur : Array Value) (xs : List Value) (w : World)
    (hbk : w.heap[b]? = some (.cells #[.slice (some ⟨g, 0, none⟩) l cap, .int .i64 0, .int .i8 lr] 34 (0, 0)))
    (hl : xs.length = l) (hg : w.heap[g]? = some (.cells cur 5 (0, 0))) (hlc : l ≤ cap) (hcm : cap ≤ maxLen) (hcs : cur.size = cap) (htake : cur.toList.take l = xs) (hgb : g ≠ b)
    (h1 : ∀ v ∈ xs, v.oneCell' = true) (hn : 1 ≤ n) (hroom : cap - l < n) (hlim : l + n ≤ 40000000) (hl0 : 0 < l) :
    Calls Try.prog 37 #[.pointer (some ⟨b, 0, none⟩), .int .i64 n] w fun e w' => e = .returned (.int .i64 l) ∧ GrownTo w w' b l n xs := by
  have hIs : Lib.IsBuffer 34 5 0 b xs w := ⟨Nat.zero_le _, _, _, hbk, ⟨by rw [hl, Nat.mul_one], .inr ⟨g, cap, cur, by rw [hl], Nat.zero_le _, hg, by omega, hcm, by omega, by rw [hl, Nat.mul_one]; exact htake⟩⟩, by simp [Value.ownBlock]; exact hgb⟩
  have hnil : ∀ W, (binOp .eql 22 (.slice (some ⟨g, 0, none⟩) l cap) (.slice none 0 0)).run Try.prog W = .ok (.bool false) W := fun W => Lib.run_eql_slice_some_nil W _ _ _ Try.underlying22
  have HBK := Lib.hid hbk
  have HG := Lib.hid hg
  have HCS := Lib.hid hcs
  have HL := Lib.hid hl
  have HTK := Lib.hid htake
  have h1' : ∀ v ∈ cur.toList.take l, v.oneCell' = true := by rw [htake]; exact h1
  have H1 := Lib.hid h1'
  clear hbk hg hcs hl htake h1 h1'
  go_enter Try.func37, Try.ntmps37
  go_wp2_with fail
  refine (Try.Buffer_Len 0 b xs w hIs).mono ?_
  rintro e W0 ⟨rfl, k, hW0⟩
  rw [HL.out]
  have hbk0 : W0.heap[b]? = some (.cells #[.slice (some ⟨g, 0, none⟩) l cap, .int .i64 0, .int .i8 lr] 34 (0, 0)) := by rw [hW0]; exact HBK.out
  have hg0 : W0.heap[g]? = some (.cells cur 5 (0, 0)) := by rw [hW0]; exact HG.out
  have c0 : W0.cell? ⟨b, 0, none⟩ = some (.slice (some ⟨g, 0, none⟩) l cap) := by rw [Lib.cell_of_heap hbk0]; rfl
  have c1 : W0.cell? ⟨b, 1, none⟩ = some (.int .i64 0) := by rw [Lib.cell_of_heap hbk0]; rfl
  have f0 : W0.frozen? ⟨b, 0, none⟩ = false := Lib.frozen_of_heap hbk0 0
  have f1 : W0.frozen? ⟨b, 1, none⟩ = false := Lib.frozen_of_heap hbk0 1
  have hbW := Lib.lt_of_heap hbk0
  have HW0 := Lib.hid hW0
  have HBK0 := Lib.hid hbk0
  have HG0 := Lib.hid hg0
  have hcm' : cap ≤ 9223372036854775807 := hcm
  have hc2 : cap ≤ 140737488355328 := by omega
  clear hW0 hIs hbk0 hg0
  go_wp2_with fail
  refine (Try.Buffer_tryGrow_none b _ l cap n _ c0 hlc hcm hroom).mono ?_
  rintro e w' ⟨rfl, rfl⟩
  have hwn : IntKind.i64.wrap (n : Int) = n := by rw [IntKind.wrap_i64]; omega
  go_wp2_with fail
  go_region_with (
      go_at_call 39
      refine (Try.bytes_growSlice_row g l cap n cur _ ?_ HCS.out hlc hn (by omega) hc2 H1.out).mono ?_
      exact HG0.out
      rintro e w2 ⟨cap2, cells, rfl, hN, hcsz, htk, hcap2, hcm2, hbel⟩
      have hbk2 : w2.heap[b]? = some (.cells #[.slice (some ⟨g, 0, none⟩) l cap, .int .i64 0, .int .i8 lr] 34 (0, 0)) := (hbel.block b hbW).trans HBK0.out
      have d0 : w2.cell? ⟨b, 0, none⟩ = some (.slice (some ⟨g, 0, none⟩) l cap) := by rw [Lib.cell_of_heap hbk2]; rfl
      have d1 : w2.cell? ⟨b, 1, none⟩ = some (.int .i64 0) := by rw [Lib.cell_of_heap hbk2]; rfl
      have e0 : w2.frozen? ⟨b, 0, none⟩ = false := Lib.frozen_of_heap hbk2 0
      have e1 : w2.frozen? ⟨b, 1, none⟩ = false := Lib.frozen_of_heap hbk2 1)
  all_goals (
    go_wp2
    go_ret
    have hs0 : w'.heap.size = w.heap.size := by rw [HW0.out]; rfl
    have fw : Fr (fun k => k = b) w w2 := by
      refine Fr.below (w := w'.drew) ?_ hbel
      rw [HW0.out]; exact ⟨rfl, rfl, rfl, Nat.le_refl _, fun _ _ _ => rfl⟩
    refine ⟨rfl, ?_⟩
    exact grow_fin (l := l) (n := n) hbk2 hN (by show w'.heap.size ≠ b; omega) hcsz (htk.trans HTK.out) hcap2 hcm2 fw (by show w.heap.size ≤ w'.heap.size; omega))

end Go.Proofs.Ytmddbfcghddacaa

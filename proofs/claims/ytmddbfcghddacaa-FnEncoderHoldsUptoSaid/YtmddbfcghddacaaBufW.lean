/-
  bytes.Buffer: Write and Bytes, and where its row lies. Condition: it has only been written to, and holds at most 40000000 bytes.
-/
import Derived.Test.YtmddbfcghddacaaBuf
import Derived.Test.YtmddbfcghddacaaSame
import Derived.Laws.IdiomCopy
import Derived.Laws.CopyRow
namespace Go.Proofs.Ytmddbfcghddacaa
open Go.RowKit
set_option linter.unusedVariables false

/-- a buffer at block b that holds txt in the row go -/
def Buf (w : World) (b : Nat) (go : Option Nat) (txt : List UInt8) : Prop :=
  ∃ lr : Int, (go = none ∧ txt = [] ∧ w.heap[b]? = some (.cells #[.slice none 0 0, .int .i64 0, .int .i8 lr] 34 (0, 0))) ∨
    ∃ (g cap : Nat) (cur : Array Value), go = some g ∧ 0 < txt.length ∧ w.heap[b]? = some (.cells #[.slice (some ⟨g, 0, none⟩) txt.length cap, .int .i64 0, .int .i8 lr] 34 (0, 0)) ∧ w.heap[g]? = some (.cells cur 5 (0, 0)) ∧ txt.length ≤ cap ∧ cap ≤ maxLen ∧ cur.size = cap ∧ cur.toList.take txt.length = txt.map bv ∧ g ≠ b

theorem Buf.lt {w : World} {b : Nat} {go : Option Nat} {txt : List UInt8} (h : Buf w b go txt) : b < w.heap.size ∧ ∀ g, go = some g → g < w.heap.size := by
  obtain ⟨lr, ⟨e, _, h⟩ | ⟨g, cap, cur, e, _, h1, h2, _⟩⟩ := h
  · exact ⟨Lib.lt_of_heap h, fun g hg => by rw [e] at hg; cases hg⟩
  · exact ⟨Lib.lt_of_heap h1, fun g' hg => by rw [e] at hg; injection hg with hg; subst hg; exact Lib.lt_of_heap h2⟩
theorem Buf.keep {w w' : World} {b : Nat} {go : Option Nat} {txt : List UInt8} (h : Buf w b go txt) (hb : w'.heap[b]? = w.heap[b]?) (hg : ∀ g, go = some g → w'.heap[g]? = w.heap[g]?) : Buf w' b go txt := by
  obtain ⟨lr, ⟨e, e2, h⟩ | ⟨g, cap, cur, e, e2, h1, h2, h3⟩⟩ := h
  · exact ⟨lr, .inl ⟨e, e2, hb.trans h⟩⟩
  · exact ⟨lr, .inr ⟨g, cap, cur, e, e2, hb.trans h1, (hg g e).trans h2, h3⟩⟩

/-- what a copy behind l cells leaves of a row -/
theorem buf_copied {W : World} {b g l n cap : Nat} {lr : Int} {cur : Array Value} {txt p : List UInt8} (hb : W.heap[b]? = some (.cells #[.slice (some ⟨g, 0, none⟩) (l + n) cap, .int .i64 0, .int .i8 lr] 34 (0, 0))) (hg : W.heap[g]? = some (.cells cur 5 (0, 0)))
    (hl : l = txt.length) (hn : n = p.length) (hn0 : 0 < n) (hcap : l + n ≤ cap) (hcm : cap ≤ maxLen) (hcs : cur.size = cap) (htk : cur.toList.take l = txt.map bv) (hgb : g ≠ b) :
    Buf (W.setRow g (cur.toList.take l ++ p.map bv ++ cur.toList.drop (l + n)).toArray) b (some g) (txt ++ p) := by
  have hlen : (cur.toList.take l).length = l := by rw [List.length_take, Array.length_toList]; omega
  refine ⟨lr, .inr ⟨g, cap, _, rfl, by rw [List.length_append]; omega, ?_, setRow_heap W g cur _ _ _ hg, by rw [List.length_append]; omega, hcm, ?_, ?_, hgb⟩⟩
  · rw [heap_setRow_other W g b _ hgb.symm, hb, List.length_append, ← hl, ← hn]
  · simp only [List.size_toArray, List.length_append, List.length_map, List.length_drop, List.length_take, Array.length_toList]; omega
  · rw [htk, List.length_append, List.map_append]
    rw [List.take_append_of_le_length (by rw [List.length_append, List.length_map, List.length_map]; exact Nat.le_refl _)]
    exact List.take_of_length_le (by rw [List.length_append, List.length_map, List.length_map]; exact Nat.le_refl _)

structure BufPost (w w' : World) (b : Nat) (go : Option Nat) (txt : List UInt8) : Prop where
  ex : ∃ go', Buf w' b go' txt ∧ Fr (fun k => k = b ∨ go = some k) w w' ∧ (go' = go ∨ ∃ g, go' = some g ∧ w.heap.size ≤ g)

set_option maxHeartbeats 6400000 in
set_option maxRecDepth 100000 in
theorem buf_write (b ge o n c : Nat) (go : Option Nat) (txt p : List UInt8) (w : World) (hB : Buf w b go txt) (hgb : ge ≠ b) (hgo : go ≠ some ge) (hge : ge < w.heap.size) (hn : n = p.length) (hn0 : 0 < n) (hnc : n ≤ c) (hc : c ≤ 1024)
    (hsrc : ∀ (i : Nat) (x : UInt8), p[i]? = some x → w.cell? ⟨ge, o + i, none⟩ = some (Value.int .u8 (x.toNat : Int))) (hl : txt.length + n ≤ 20000000) :
    Calls Try.prog 35 #[.pointer (some ⟨b, 0, none⟩), .slice (some ⟨ge, o, none⟩) n c] w fun e w' => e = .returned (.tuple #[.int .i64 (n : Int), .nilIface]) ∧ BufPost w w' b go (txt ++ p) := by
  have hinfo : (Try.prog.info? 5).map (·.size) = some 1 := by kernel_rfl
  have hsrcA : ∀ W : World, (∀ i, W.cell? ⟨ge, i, none⟩ = w.cell? ⟨ge, i, none⟩) → ∀ j v, (p.map bv)[j]? = some v → W.cell? ((⟨ge, o, none⟩ : Addr).add j) = some v := by
    intro W hW j v hj
    rw [addr_add, hW]
    rw [List.getElem?_map, Option.map_eq_some_iff] at hj
    obtain ⟨x, hx, rfl⟩ := hj
    exact hsrc j x hx
  have HSRC := Lib.hid hsrcA
  have HN := Lib.hid hn
  have hcpA : ∀ (W : World) (g l cap : Nat) (cur : Array Value), W.heap[g]? = some (.cells cur 5 (0, 0)) → cur.size = cap → l + n ≤ cap → (∀ i, W.cell? ⟨ge, i, none⟩ = w.cell? ⟨ge, i, none⟩) →
      (Builtin.copy_ #[22, 22] 3 #[.slice (some ⟨g, l, none⟩) n (cap - l), .slice (some ⟨ge, o, none⟩) n c]).run Try.prog W = .ok (goInt n) (W.setRow g (cur.toList.take l ++ p.map bv ++ cur.toList.drop (l + n)).toArray) := by
    intro W g l cap cur hg hcs hle hW
    have := run_copy_row (P := Try.prog) W 22 22 3 5 g l n (cap - l) ⟨ge, o, none⟩ n c cur 5 (p.map bv) Try.underlying22 hinfo hg (by rw [List.length_map, ← hn]; exact (Nat.min_self n).symm) (hsrcA W hW) (by rw [List.length_map, ← hn]; omega) (bv_one _)
    rw [List.length_map, ← hn] at this
    exact this
  have HCP := Lib.hid hcpA
  clear hsrc hsrcA hn hcpA
  obtain ⟨lr, hcase⟩ := hB
  obtain ⟨l, hL⟩ : ∃ l, l = txt.length := ⟨_, rfl⟩
  have HLL := Lib.hid hL
  rw [← hL] at hl hcase
  clear hL
  by_cases hroom : ∃ (g cap : Nat) (cur : Array Value), go = some g ∧ w.heap[b]? = some (.cells #[.slice (some ⟨g, 0, none⟩) l cap, .int .i64 0, .int .i8 lr] 34 (0, 0)) ∧ w.heap[g]? = some (.cells cur 5 (0, 0)) ∧ cap ≤ maxLen ∧ cur.size = cap ∧ cur.toList.take l = txt.map bv ∧ g ≠ b ∧ l + n ≤ cap
  · obtain ⟨g, cap, cur, rfl, hb, hg, hcm, hcs, htk, hgb', hcap⟩ := hroom
    clear hcase
    have hgg : ge ≠ g := fun e => hgo (by rw [e])
    obtain ⟨W, hW⟩ : ∃ W, w.setCell ⟨b, 2, none⟩ (.int .i8 0) = W := ⟨_, rfl⟩
    have hbW : W.heap[b]? = some (.cells #[.slice (some ⟨g, 0, none⟩) l cap, .int .i64 0, .int .i8 0] 34 (0, 0)) := by rw [← hW]; exact heap_set_same w b 2 _ _ _ hb
    have hgW : W.heap[g]? = some (.cells cur 5 (0, 0)) := by rw [← hW, Below.heap_setCell _ _ _ _ hgb']; exact hg
    have x0 : W.cell? ⟨b, 0, none⟩ = some (.slice (some ⟨g, 0, none⟩) l cap) := by rw [Lib.cell_of_heap hbW]; rfl
    have fx : W.frozen? ⟨b, 0, none⟩ = false := Lib.frozen_of_heap hbW 0
    obtain ⟨V, hV⟩ : ∃ V, W.setCell ⟨b, 0, none⟩ (.slice (some ⟨g, 0, none⟩) (l + n) cap) = V := ⟨_, rfl⟩
    have hbV : V.heap[b]? = some (.cells #[.slice (some ⟨g, 0, none⟩) (l + n) cap, .int .i64 0, .int .i8 0] 34 (0, 0)) := by rw [← hV]; exact heap_set_same W b 0 _ _ _ hbW
    have hgV : V.heap[g]? = some (.cells cur 5 (0, 0)) := by rw [← hV, Below.heap_setCell _ _ _ _ hgb']; exact hgW
    have fV : Fr (fun k => k = b ∨ some g = some k) w V := by
      subst hV; subst hW
      exact ((Fr.refl _ _).setCell (p := ⟨b, 2, none⟩) (.inl rfl) _).setCell (p := ⟨b, 0, none⟩) (.inl rfl) _
    have hVge : ∀ i, V.cell? ⟨ge, i, none⟩ = w.cell? ⟨ge, i, none⟩ := fun i => World.cell?_of_block (a := ⟨ge, i, none⟩) (fV.block ge hge (fun h => h.elim hgb (fun e => hgg (by injection e with e; exact e.symm))))
    have hcp := HCP.out V g l cap cur hgV hcs hcap hVge
    have hfin := buf_copied hbV hgV HLL.out HN.out hn0 hcap hcm hcs htk hgb'
    have y0 : V.cell? ⟨b, 0, none⟩ = some (.slice (some ⟨g, 0, none⟩) (l + n) cap) := by rw [Lib.cell_of_heap hbV]; rfl
    have w2 : w.cell? ⟨b, 2, none⟩ = some (.int .i8 lr) := by rw [Lib.cell_of_heap hb]; rfl
    have f2 : w.frozen? ⟨b, 2, none⟩ = false := Lib.frozen_of_heap hb 2
    have hne : ¬ cap = l := by omega
    obtain ⟨cr, hcr⟩ : ∃ cr, cr = (cur.toList.take l ++ p.map bv ++ cur.toList.drop (l + n)).toArray := ⟨_, rfl⟩
    rw [← hcr] at hcp hfin
    have HFIN := Lib.hid hfin
    have FV := Lib.hid fV
    have hcm' : cap ≤ 9223372036854775807 := hcm
    have C1 : Hid (Calls Try.prog 36 #[.pointer (some ⟨b, 0, none⟩), .int .i64 n] W fun e w' => e = .returned (.tuple #[.int .i64 l, .bool true]) ∧ w' = V) := by
      rw [← hV]; exact Try.Buffer_tryGrow_room b _ l cap n W x0 fx (by omega) hcm (by omega)
    clear hfin fV hcr hbV hgV hVge hbW hgW hb hg htk hcs hV x0 fx
    go_enter Try.func35, Try.ntmps35
    go_wp2_with fail
    refine C1.out.mono ?_
    rintro e w' ⟨rfl, rfl⟩
    go_wp2_with fail
    go_ret2
    exact ⟨rfl, some g, HFIN.out, FV.out.setRow (.inr rfl) _, .inl rfl⟩
  · obtain ⟨W, hW⟩ : ∃ W, w.setCell ⟨b, 2, none⟩ (.int .i8 0) = W := ⟨_, rfl⟩
    have sW : W.heap.size = w.heap.size := by rw [← hW]; simp [World.setCell]
    have fW : Fr (fun k => k = b) w W := by rw [← hW]; exact Fr.setCell (M := fun k => k = b) (Fr.refl _ _) (p := ⟨b, 2, none⟩) rfl _
    have key : (∃ v, w.cell? ⟨b, 2, none⟩ = some v) ∧ w.frozen? ⟨b, 2, none⟩ = false ∧ Hid (Calls Try.prog 36 #[.pointer (some ⟨b, 0, none⟩), .int .i64 n] W fun e w' => e = .returned (.tuple #[.int .i64 0, .bool false]) ∧ w' = W) ∧
        Hid (Calls Try.prog 37 #[.pointer (some ⟨b, 0, none⟩), .int .i64 n] W fun e w' => e = .returned (.int .i64 l) ∧ GrownTo W w' b l n (txt.map bv)) := by
      rcases hcase with ⟨rfl, rfl, hb⟩ | ⟨g, cap, cur, rfl, h0, hb, hg, hlc, hcm, hcs, htk, hgb'⟩
      · have hbW : W.heap[b]? = some (.cells #[.slice none 0 0, .int .i64 0, .int .i8 0] 34 (0, 0)) := by rw [← hW]; exact heap_set_same w b 2 _ _ _ hb
        have x0 : W.cell? ⟨b, 0, none⟩ = some (.slice none 0 0) := by rw [Lib.cell_of_heap hbW]; rfl
        have e0 : l = 0 := HLL.out
        refine ⟨⟨_, by rw [Lib.cell_of_heap hb]; rfl⟩, Lib.frozen_of_heap hb 2, Try.Buffer_tryGrow_none b _ 0 0 n W x0 (Nat.le_refl _) (Nat.zero_le _) (by omega), ?_⟩
        rw [e0]
        by_cases h64 : n ≤ 64
        · exact grow_small b n 0 W hbW hn0 h64
        · exact grow_big b n 0 W hbW (by omega) (by omega)
      · have hbW : W.heap[b]? = some (.cells #[.slice (some ⟨g, 0, none⟩) l cap, .int .i64 0, .int .i8 0] 34 (0, 0)) := by rw [← hW]; exact heap_set_same w b 2 _ _ _ hb
        have hgW : W.heap[g]? = some (.cells cur 5 (0, 0)) := by rw [← hW, Below.heap_setCell _ _ _ _ hgb']; exact hg
        have x0 : W.cell? ⟨b, 0, none⟩ = some (.slice (some ⟨g, 0, none⟩) l cap) := by rw [Lib.cell_of_heap hbW]; rfl
        have hlt : cap - l < n := by
          rcases Nat.lt_or_ge (cap - l) n with h | h
          · exact h
          · exact absurd ⟨g, cap, cur, rfl, hb, hg, hcm, hcs, htk, hgb', by omega⟩ hroom
        refine ⟨⟨_, by rw [Lib.cell_of_heap hb]; rfl⟩, Lib.frozen_of_heap hb 2, Try.Buffer_tryGrow_none b _ l cap n W x0 hlc hcm hlt, ?_⟩
        exact grow_row b g l cap n 0 cur (txt.map bv) W hbW (by rw [List.length_map, HLL.out]) hgW hlc hcm hcs htk hgb' (bv_one _) hn0 hlt (by omega) h0
    obtain ⟨⟨v2, w2⟩, f2, C1, C2⟩ := key
    clear hcase hroom
    have FW := Lib.hid fW
    clear fW
    go_enter Try.func35, Try.ntmps35
    go_wp2_with fail
    refine C1.out.mono ?_
    rintro e w' ⟨rfl, rfl⟩
    go_wp2_with fail
    refine C2.out.mono ?_
    rintro e V ⟨rfl, ⟨g, cap, cur, lr', hbV, hgV, hcs, hcap, hcm, htk, hgw, fV⟩⟩
    have hgb' : g ≠ b := fun e => by
      subst e
      rw [hgV] at hbV
      injection hbV with hbV
      injection hbV with _ hbV
      exact absurd hbV (by decide)
    have fwV : Fr (fun k => k = b) w V := FW.out.trans fV (fun _ _ h => h)
    have hVge : ∀ i, V.cell? ⟨ge, i, none⟩ = w.cell? ⟨ge, i, none⟩ := fun i => World.cell?_of_block (a := ⟨ge, i, none⟩) (fwV.block ge hge hgb)
    have hcp := HCP.out V g l cap cur hgV hcs hcap hVge
    have hfin := buf_copied hbV hgV HLL.out HN.out hn0 hcap hcm hcs htk hgb'
    have y0 : V.cell? ⟨b, 0, none⟩ = some (.slice (some ⟨g, 0, none⟩) (l + n) cap) := by rw [Lib.cell_of_heap hbV]; rfl
    have hne : ¬ cap = l := by omega
    have hcm' : cap ≤ 9223372036854775807 := hcm
    have hgs : w.heap.size ≤ g := by omega
    obtain ⟨cr, hcr⟩ : ∃ cr, cr = (cur.toList.take l ++ p.map bv ++ cur.toList.drop (l + n)).toArray := ⟨_, rfl⟩
    rw [← hcr] at hcp hfin
    have HFIN := Lib.hid hfin
    have FV := Lib.hid fwV
    clear hfin fwV fV hcr hbV hgV hVge htk hcs C1 C2 hW
    go_wp2_with fail
    go_ret2
    refine ⟨rfl, some g, HFIN.out, ?_, .inr ⟨g, rfl, hgs⟩⟩
    have f := FV.out
    refine ⟨f.os, f.tape, f.output, by simpa using f.size, fun k hk hm => ?_⟩
    rw [heap_setRow_other _ _ _ _ (by omega)]
    exact f.block k hk (fun e => hm (.inl e))

set_option maxHeartbeats 1000000 in
theorem buf_bytes (b : Nat) (go : Option Nat) (txt : List UInt8) (w : World) (hB : Buf w b go txt) :
    Calls Try.prog 13 #[.pointer (some ⟨b, 0, none⟩)] w fun e w' => ∃ A c, e = .returned (.slice A txt.length c) ∧ Rd w w.heap.size A txt ∧ ∃ k, w' = w.drewN k := by
  obtain ⟨lr, ⟨rfl, rfl, hb⟩ | ⟨g, cap, cur, rfl, h0, hb, hg, hlc, hcm, hcs, htk, hgb⟩⟩ := hB
  · have x0 : w.cell? ⟨b, 0, none⟩ = some (.slice none 0 0) := by rw [Lib.cell_of_heap hb]; rfl
    have x1 : w.cell? ⟨b, 1, none⟩ = some (.int .i64 0) := by rw [Lib.cell_of_heap hb]; rfl
    clear hb
    go_enter Try.func13, Try.ntmps13
    go_wp2
    go_quiet (fail)
    go_wp2
    go_ret
    exact ⟨none, 0, rfl, Rd.nil _ _ _, _, rfl⟩
  · have x0 : w.cell? ⟨b, 0, none⟩ = some (.slice (some ⟨g, 0, none⟩) txt.length cap) := by rw [Lib.cell_of_heap hb]; rfl
    have x1 : w.cell? ⟨b, 1, none⟩ = some (.int .i64 0) := by rw [Lib.cell_of_heap hb]; rfl
    have hrd : Rd w w.heap.size (some ⟨g, 0, none⟩) txt := by
      refine .inr ⟨g, 0, rfl, Lib.lt_of_heap hg, fun i x hx => ?_⟩
      rw [Lib.cell_of_heap hg, Nat.zero_add]
      have hi : i < txt.length := (List.getElem?_eq_some_iff.1 hx).1
      have : (txt.map bv)[i]? = some (bv x) := by simp [hx]
      rw [← htk, List.getElem?_take_of_lt hi, Array.getElem?_toList] at this
      exact this
    have hcm' : cap ≤ 9223372036854775807 := hcm
    have hne : ¬ cap = 0 := by omega
    obtain ⟨l, hl⟩ : ∃ l, l = txt.length := ⟨_, rfl⟩
    rw [← hl] at x0 hlc
    have HL := Lib.hid hl
    clear hb hg htk hcs hl
    rw [← HL.out]
    go_enter Try.func13, Try.ntmps13
    go_wp2
    go_quiet (fail)
    go_wp2
    go_ret
    exact ⟨some ⟨g, 0, none⟩, cap, rfl, hrd, _, rfl⟩

end Go.Proofs.Ytmddbfcghddacaa

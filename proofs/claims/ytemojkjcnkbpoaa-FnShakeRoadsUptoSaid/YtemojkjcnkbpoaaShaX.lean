/-
  SHA-3's parts: the permutation, and XORBytes into the state. No condition but where the bytes lie.
-/
import Derived.Test.YtemojkjcnkbpoaaDg
import Derived.Test.YtemojkjcnkbpoaaSrc
import Derived.WalkSpells
import Derived.LaidEqlPtr
import Derived.Lib.Overlaps
import Derived.RegionTactic
import Derived.Outline
namespace Go.Proofs.Ytemojkjcnkbpoaa
open Go.RowKit
set_option linter.unusedVariables false

theorem keccak_call {w : World} {h : Nat} {T : TypeId} {a : List UInt8} {n rate ds out st : Nat} {tl : List Value} (d : DG w h T a n rate ds out st tl) :
    ∃ w', (callFunc 33 #[.pointer (some ⟨h, 0, none⟩)]).run Try.prog w = .ok (.value (.tuple #[])) w' ∧ DG w' h T (kf a) n rate ds out st tl ∧ w.grownBy w' (some h) := by
  have hl := d.len
  have hk := kf_len a
  refine ⟨w.setRow h ((dgL a n rate ds out st tl).take 0 ++ (kf a).map bv ++ (dgL a n rate ds out st tl).drop (0 + (kf a).length)).toArray, ?_, ?_, ?_⟩
  · rw [run_callFunc_extern Try.func33 (by kernel_rfl) (by kernel_rfl) (by kernel_rfl) (e := Extern.Keccak.keccakF1600) (by kernel_rfl), run_keccak w h 0 _ T a d.blk hl (fun i x hx => by rw [Nat.zero_add, List.getElem?_toArray, dgL_at hl, if_pos (by have := (List.getElem?_eq_some_iff.1 hx).1; omega), List.getElem?_map, hx]; rfl) (by rw [List.size_toArray, dgL_len hl]; omega), hk]
    rfl
  · have := d.put 0 (kf a) (by omega)
    rw [List.drop_of_length_le (l := a) (by omega), List.append_nil, List.take_zero (l := a)] at this
    exact this
  · exact ⟨rfl, rfl, rfl, by simp, fun k _ hk => heap_setRow_other _ _ _ _ (fun e => hk (by rw [e]))⟩

set_option maxHeartbeats 1000000 in
theorem permute_any {w : World} {h : Nat} {T : TypeId} {a : List UInt8} {n rate ds out st : Nat} {tl : List Value} (d : DG w h T a n rate ds out st tl) :
    Calls Try.prog 31 #[.pointer (some ⟨h, 0, none⟩)] w fun e w' => e = .returned (.tuple #[]) ∧ DG w' h T (kf a) 0 rate ds out st tl ∧ w.grownBy w' (some h) := by
  obtain ⟨w1, hrun, d1, hg⟩ := keccak_call d
  obtain ⟨c200, -⟩ := d1.cs
  have f200 := d1.fz 200
  have D1 := Lib.hid d1
  clear d1
  go_enter Try.func31, Try.ntmps31
  go_wp2_with (simp only [hrun])
  go_end0
  refine ⟨rfl, D1.out.setN 0 0 rfl, ?_⟩
  exact ⟨hg.os, hg.tape, hg.output, by simpa [World.setCell] using hg.size, fun k hk hr => (Below.heap_setCell _ _ _ _ (fun e => hr (by rw [e]))).trans (hg.block k hk hr)⟩

theorem u8info : ∃ j, Try.prog.info? 5 = some j ∧ j.size ≠ 0 := by
  obtain ⟨i0, hi, hz0, hz1, hz2⟩ := info_parts info5
  exact ⟨i0, hi, by rw [hz1]; decide⟩

set_option maxHeartbeats 1000000 in
theorem inexact_same (p : Addr) (n c n' c' : Nat) (w : World) (hn : 0 < n) (hn' : 0 < n') (hp : p.spot = none) :
    Calls Try.prog 34 #[.slice (some p) n c, .slice (some p) n' c'] w fun e w' => e = .returned (.bool false) ∧ w' = w.drew := by
  obtain ⟨j, hj, hsz⟩ := u8info
  obtain ⟨b, o, s⟩ := p
  obtain rfl : s = none := hp
  have he := fun W => run_eql_ptr_same (P := Try.prog) W ⟨b, o, none⟩ Try.underlying56 hj
  have t1 : ((n : Int) == 0) = false := by simp; omega
  have t2 : ((n' : Int) == 0) = false := by simp; omega
  have t3 : (0 : Int) < (n : Int) := by omega
  have t4 : (0 : Int) < (n' : Int) := by omega
  go_enter Try.func34, Try.ntmps34
  go_wp2
  go_region
  go_wp2
  go_ret
  exact ⟨rfl, rfl⟩

end Go.Proofs.Ytemojkjcnkbpoaa

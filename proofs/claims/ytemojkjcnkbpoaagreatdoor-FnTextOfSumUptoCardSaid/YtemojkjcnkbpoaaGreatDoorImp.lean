/-
  impl.Encode returns the text of its bytes in a new row. Condition: at most 2^47 bytes.
-/
import Derived.Test.YtemojkjcnkbpoaaGreatDoorEncA
import Derived.Test.YtemojkjcnkbpoaaGreatDoorOwn
namespace Go.Proofs.YtemojkjcnkbpoaaGreatDoor
open Go.RowKit

set_option maxHeartbeats 400000 in
theorem maxlen_any (n : Nat) (w : World) (hn : n ≤ 140737488355328) :
    Calls Tryz.prog 12 #[.int .i64 (n : Int)] w fun e w' => e = .returned (.int .i64 (((n + 3) / 4 * 5 : Nat) : Int)) ∧ w = w' := by
  go_enter Tryz.func12, Tryz.ntmps12
  go_wp2
  go_ret
  refine ⟨?_, rfl⟩
  simp

theorem made_u8 (N i : Nat) (h : i < N) : ∃ z : Int, (madeCells #[Value.int .u8 0] N)[i]? = some (.int .u8 z) := by
  refine ⟨0, ?_⟩
  have h1 := toList_madeCells_one (Value.int .u8 0) N
  rw [← Array.getElem?_toList, h1, List.getElem?_replicate, if_pos h]

theorem Below.setRow' {B g : Nat} {w0 w : World} (hb : Below B w0 w) (hBg : B ≤ g) (cs : Array Value) : Below B w0 (w.setRow g cs) :=
  hb.trans ⟨rfl, rfl, rfl, by simp, fun k hk => heap_setRow_other w g k cs (by omega)⟩

set_option maxHeartbeats 1000000 in
theorem impl_encode (A : Option Addr) (n c : Nat) (bs : List UInt8) (w : World) (hn : n = bs.length) (h : Rd w w.heap.size A bs) (hl : bs.length ≤ 140737488355328) :
    Calls Tryz.prog 6 #[.slice A n c] w fun e w' => ∃ g d, e = .returned (.slice (some ⟨g, 0, none⟩) (Asc.enc bs).length d) ∧ (Asc.enc bs).length ≤ d ∧ d ≤ 200000000000000 ∧ w.heap.size ≤ g ∧ g < w'.heap.size ∧ Rd w' w'.heap.size (some ⟨g, 0, none⟩) (Asc.enc bs) ∧ Below w.heap.size w w' := by
  have hel := Asc.enc_len bs
  obtain ⟨N, hN⟩ : ∃ N, (n + 3) / 4 * 5 = N := ⟨_, rfl⟩
  have hmk := run_make_row' (P := Tryz.prog) 22 5 (.int .u8 0) 1 Tryz.underlying22 info5 rfl .i64 .i64 N (by omega) (by omega)
  have HN := Lib.hid hN
  have HL := Lib.hid hel
  have Hn := Lib.hid hn
  have hNb : N ≤ 200000000000000 := by omega
  have hnb : n ≤ 140737488355328 := by omega
  have hmN : (Asc.enc bs).length ≤ N := by omega
  clear hN hel hn
  go_enter Tryz.func6, Tryz.ntmps6
  go_wp2_with fail
  refine (maxlen_any n _ hnb).mono ?_
  rintro e w' ⟨rfl, rfl⟩
  rw [HN.out]
  go_wp2_with fail
  refine (own_any A n c bs _ Hn.out ?_ ?_).mono ?_
  · exact (h.alloc (Nat.le_refl _) _).mono (by simp)
  · omega
  rintro e w2 ⟨g1, d1, rfl, hown, hbel⟩
  have hsz : (w.alloc (.cells (madeCells #[Value.int .u8 0] N) 5)).heap.size = w.heap.size + 1 := by simp
  have hblk : w2.heap[w.heap.size]? = some (.cells (madeCells #[Value.int .u8 0] N) 5 (0, 0)) := by
    rw [hbel.block _ (by omega)]
    exact heap_alloc_new w _
  have hg1 := hown.lt'
  have hrd := hown.rd
  have hd1 : bs.length ≤ d1 ∧ d1 ≤ 9223372036854775807 := by
    rcases hown.2 with ⟨e, _⟩ | ⟨g', c', cur, e, _, _, h1, h2, _⟩
    · cases e
    · injection e with _ _ e3
      subst e3
      exact ⟨h1, h2⟩
  have hbw : Below w.heap.size w w2 := ((Below.refl _ _).alloc (Nat.le_refl _) _).trans (hbel.mono (by omega))
  go_wp2_with fail
  refine (encode_any w.heap.size 0 N N (some ⟨g1, 0, none⟩) bs.length d1 bs (madeCells #[Value.int .u8 0] N) 5 w2 hblk ?_ (Nat.le_refl _) (by omega) rfl hd1.1 hd1.2 ?_ ?_).mono ?_
  · intro i hi
    rw [Nat.zero_add]
    exact made_u8 N i hi
  · rcases hrd with e | ⟨b, off, hA, _, hc⟩
    · exact .inl e
    · injection hA with hA
      injection hA with h1 h2
      subst h1
      subst h2
      exact .inr ⟨g1, 0, rfl, .inl (by omega), hc⟩
  · have := HN.out
    have := Hn.out
    omega
  rintro e w3 ⟨rfl, cr, rfl, hupd, hcr⟩
  have hN0 : ((Asc.enc bs).length : Int) ≤ (N : Int) := by omega
  go_wp2_with fail
  go_ret
  have hsr : (w2.setRow w.heap.size cr).heap.size = w2.heap.size := by simp
  refine ⟨w.heap.size, N, rfl, hmN, hNb, Nat.le_refl _, by omega, ?_, Below.setRow' hbw (Nat.le_refl _) _⟩
  refine .inr ⟨w.heap.size, 0, rfl, by omega, fun i x hx => ?_⟩
  rw [cell_setRow w2 w.heap.size _ _ cr _ _ hblk]
  exact hcr i x hx

end Go.Proofs.YtemojkjcnkbpoaaGreatDoor

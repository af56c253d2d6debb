/-
  FnNoRoom: into a room of less than four bytes nothing is written of a text, and nothing of it is used. No condition.
-/
import Derived.Test.YtmddbfcghddacaaDoorImpD
import Derived.Test.YtmddbfcghddacaaDoorDecQ
namespace Go.Proofs.YtmddbfcghddacaaDoor
open Go.RowKit
set_option linter.unusedVariables false

set_option maxRecDepth 100000 in
set_option maxHeartbeats 2000000 in
theorem noRoom_walk (A0 : Option Addr) (c0 : Nat) (bs0 : List UInt8) (a1 : Int) (b2 : Bool) (w : World) (rd0 : Rd w w.heap.size A0 bs0) (lc0 : bs0.length ≤ c0) (lm0 : c0 ≤ 140737488351232) (h1 : -9223372036854775808 ≤ a1 ∧ a1 ≤ 9223372036854775807)
    (hlaid : w.cell? ⟨0, 0, none⟩ = some (.iface 61 (.agg #[.pointer (some ⟨1, 39, none⟩)]))) :
    Calls Tryd.prog 6 #[.slice A0 bs0.length c0, .int .i64 a1, .bool b2] w fun e w' => e = .returned (.bool true) ∧ Below w.heap.size w w' := by
  clear hlaid
  obtain ⟨n, hn⟩ : ∃ n, n = bs0.length := ⟨_, rfl⟩
  rw [← hn] at lc0
  rw [← hn]
  have HN := Lib.hid hn
  clear hn
  by_cases h3 : a1 ≤ 3
  case neg =>
    have t1 : decide (3 < a1) = true := by simp; omega
    go_enter Tryd.func6, Tryd.ntmps6
    go_wp2_with fail
    go_ret
    exact ⟨rfl, Below.refl _ _⟩
  case pos =>
  have t1 : decide (3 < a1) = false := by simp; omega
  by_cases hz : n = 0
  · subst hz
    go_enter Tryd.func6, Tryd.ntmps6
    go_wp2_with fail
    go_ret
    exact ⟨rfl, Below.refl _ _⟩
  · have t2 : ((n : Int) == 0) = false := beq_eq_false_iff_ne.2 (by omega)
    have hR : roomN a1 (Asc.enc bs0).length ≤ 3 := by unfold roomN; split; omega; split <;> omega
    have hd : Asc.dec (roomN a1 (Asc.enc bs0).length) b2 (Asc.enc bs0).length (Asc.enc bs0) 0 0 0 0 [] = ([], 0, none) := by
      rw [Asc.dec_room 0 bs0 (by omega) (by omega) (by have := HN.out; omega)]
      simp [Asc.enc]
    have HD := Lib.hid hd
    have hel := Asc.enc_len bs0
    have HEL : Hid ((Asc.enc bs0).length ≤ 200000000000000) := by show _ ≤ _; have := HN.out; omega
    have HR := Lib.hid hR
    clear hd hel hR
    go_enter Tryd.func6, Tryd.ntmps6
    go_wp2_with fail
    refine (impl_encode A0 n c0 bs0 w HN.out rd0 (by have := HN.out; omega)).mono ?_
    rintro e w1 ⟨g, d, rfl, hd1, hd2, hg1, hg2, hrd, hb1⟩
    obtain ⟨m, em⟩ : ∃ m, m = (Asc.enc bs0).length := ⟨_, rfl⟩
    have HEM := Lib.hid em
    rw [← em]
    have z1 := hb1.size
    clear em
    go_wp2_with fail
    refine (impl_decode (some ⟨g, 0, none⟩) m d (Asc.enc bs0) b2 a1 w1 HEM.out hrd (by rw [HEM.out]; exact HEL.out) (by rw [HEM.out]; have := HR.out; omega) h1 [] 0 (by rw [HEM.out]; exact HD.out)).mono ?_
    rintro e w2 ⟨g2, rfl, _, _, _, _, hb2⟩
    obtain ⟨R, eR⟩ : ∃ R, R = roomN a1 m := ⟨_, rfl⟩
    rw [← eR]
    have bw : Below w.heap.size w w2 := hb1.trans (hb2.mono z1)
    have z2 := bw.size
    clear eR hb1 hb2 hrd hd1 hd2
    rw [show (([] : List UInt8).length) = 0 from rfl, show ((0 : Nat) : Int) = 0 from rfl]
    go_wp2_with fail
    go_ret
    exact ⟨rfl, bw.alloc z2 _⟩

end Go.Proofs.YtmddbfcghddacaaDoor

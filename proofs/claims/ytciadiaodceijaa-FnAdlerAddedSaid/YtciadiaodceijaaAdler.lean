/-
  laws.adler returns both sums of Adler-32, and true; laws.rest the rest modulo 65521. Condition: at most 2 * 10^14 bytes.
-/
import Derived.Test.YtciadiaodceijaaSum6
import Derived.Deep.QuietTactic
import Derived.BigQuiet
namespace Go.Proofs.Ytciadiaodceijaa
open Go.RowKit

theorem wraps_i64'' (n : Int) (h₀ : 0 ≤ n) (h₁ : n < 2 ^ 63) : IntKind.i64.wrap n = n := by rw [IntKind.wrap_i64]; omega

theorem i64_or8 (y z : Nat) (hy : y < 256) (hz : z < 256) : bits .or .i64 ((y : Int) * 256) (z : Int) = (y : Int) * 256 + z :=
  bits_join .i64 63 (by decide) wraps_i64'' 8 _ _ (by omega) (by omega) (by omega) (by omega) (by omega) (by omega)

set_option maxHeartbeats 1000000 in
theorem adler_any (A : Option Addr) (n c : Nat) (bs : List UInt8) (w : World) (hn : n = bs.length) (h : Rd w w.heap.size A bs) (hl : bs.length ≤ 200000000000000) :
    Calls Try.prog 4 #[.slice A n c] w fun e w' => e = .returned (.tuple #[.int .i64 (Adl.a bs : Int), .int .i64 (Adl.b bs : Int), .bool true]) ∧ Below w.heap.size w w' := by
  have HN := Lib.hid hn
  clear hn
  go_enter Try.func4, Try.ntmps4
  go_wp2_with fail
  refine (sumOf_6 A n c bs w HN.out h hl).mono ?_
  rintro e w1 ⟨g, d, rfl, hown, hb1⟩
  have ha := Adl.a_lt bs
  have hb := Adl.b_lt bs
  obtain ⟨y0, y1, z0, z1, hy0, hy1, hz0, hz1, eb, ea⟩ : ∃ y0 y1 z0 z1 : Nat, y0 < 256 ∧ y1 < 256 ∧ z0 < 256 ∧ z1 < 256 ∧ Adl.b bs = y0 * 256 + y1 ∧ Adl.a bs = z0 * 256 + z1 :=
    ⟨Adl.b bs / 256, Adl.b bs % 256, Adl.a bs / 256, Adl.a bs % 256, by omega, by omega, by omega, by omega, by omega, by omega⟩
  have hD : Adl.b bs * 65536 + Adl.a bs < 4294967296 := by omega
  have hc : ∀ i, i < 4 → w1.cell? ⟨g, i, none⟩ = ((be32 (Adl.b bs * 65536 + Adl.a bs)).map bv)[i]? := fun i hi => World.ownsRow.cellAt hown i (by simpa [sum6, be32] using hi)
  rw [be32_cells _ hD] at hc
  have q0 : w1.cell? ⟨g, 0, none⟩ = some (.int .u8 (y0 : Int)) := by rw [hc 0 (by omega)]; simp only [List.getElem?_cons_zero]; congr 2; omega
  have q1 : w1.cell? ⟨g, 1, none⟩ = some (.int .u8 (y1 : Int)) := by rw [hc 1 (by omega)]; simp only [List.getElem?_cons_succ, List.getElem?_cons_zero]; congr 2; omega
  have q2 : w1.cell? ⟨g, 2, none⟩ = some (.int .u8 (z0 : Int)) := by rw [hc 2 (by omega)]; simp only [List.getElem?_cons_succ, List.getElem?_cons_zero]; congr 2; omega
  have q3 : w1.cell? ⟨g, 3, none⟩ = some (.int .u8 (z1 : Int)) := by rw [hc 3 (by omega)]; simp only [List.getElem?_cons_succ, List.getElem?_cons_zero]; congr 2; omega
  have hlen : (sum6 bs).length = 4 := rfl
  rw [hlen]
  have o1 := i64_or8 y0 y1 hy0 hy1
  have o2 := i64_or8 z0 z1 hz0 hz1
  have t1 : decide ((z0 : Int) * 256 + z1 < 65521) = true := by simp; omega
  have t2 : decide ((y0 : Int) * 256 + y1 < 65521) = true := by simp; omega
  have t3 : (z0 : Int) * 256 + z1 < 65521 := by omega
  have t4 : (y0 : Int) * 256 + y1 < 65521 := by omega
  have EA := Lib.hid ea
  have EB := Lib.hid eb
  clear hc hD ea eb ha hb hlen hown h
  go_wp2_with fail
  go_quiet (fail)
  go_wp2_with fail
  go_ret3
  refine ⟨?_, hb1.trans ⟨rfl, rfl, rfl, Nat.le_refl _, fun _ _ => rfl⟩⟩
  rw [EA.out, EB.out]
  simp

set_option maxHeartbeats 400000 in
theorem rest_any (x : Int) (w : World) (h0 : -9223372036854775808 ≤ x) (h1 : x ≤ 9223372036854775807) :
    Calls Try.prog 5 #[.int .i64 x] w fun e w' => e = .returned (.int .i64 (x % 65521)) ∧ w = w' := by
  have e : (x.tmod 65521 : Int) % 65521 = x % 65521 := by
    rw [Int.tmod_eq_emod]
    split <;> omega
  have b1 : -65521 < x.tmod 65521 := by rw [Int.tmod_eq_emod]; split <;> omega
  have b2 : x.tmod 65521 < 65521 := by rw [Int.tmod_eq_emod]; split <;> omega
  have b3 : 0 ≤ x → x.tmod 65521 = x % 65521 := fun h => Int.tmod_eq_emod_of_nonneg h
  by_cases hx : 0 ≤ x
  · have E := Lib.hid (show (x % 65521 + 65521) % 65521 = x % 65521 by omega)
    clear e b1 b2 b3
    go_enter Try.func5, Try.ntmps5
    go_wp2
    go_ret
    refine ⟨?_, rfl⟩
    show Ending.returned (.int .i64 _) = _
    rw [E.out]
  · have E := Lib.hid e
    clear e b3
    go_enter Try.func5, Try.ntmps5
    go_wp2
    go_ret
    refine ⟨?_, rfl⟩
    show Ending.returned (.int .i64 _) = _
    rw [E.out]

end Go.Proofs.Ytciadiaodceijaa

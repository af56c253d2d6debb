/-
  impl.SumsOf at the kinds of FNV, and laws.sumsOf: the sums behind each piece of data. Condition: at most 1048576 cuts, and the lengths' bounds.
-/
import Derived.Test.YtaplmdbcjckbkaaGreatFnvF
import Derived.Test.YtaplmdbcjckbkaaGreatSums0
import Derived.Test.YtaplmdbcjckbkaaGreatSums1
import Derived.Test.YtaplmdbcjckbkaaGreatSums2
import Derived.Test.YtaplmdbcjckbkaaGreatSums3
import Derived.Test.YtaplmdbcjckbkaaGreatSums4
import Derived.Test.YtaplmdbcjckbkaaGreatSums5
namespace Go.Proofs.YtaplmdbcjckbkaaGreat
open Go.RowKit
set_option linter.unusedVariables false

theorem sumsOf_fnv (k : Nat) (hk : k < 6) (A : Option Addr) (n c : Nat) (bs : List UInt8) (A2 : Option Addr) (m c2 : Nat) (zs : List Int) (w : World) (hn : n = bs.length) (h : Rd w w.heap.size A bs) (hnc : n ≤ c) (hc : c ≤ 140737488351232) (hm : m = zs.length) (h2 : RdI w w.heap.size A2 zs) (hml : m ≤ 1048576) :
    Calls Tryz.prog 18 #[.int .i64 (k : Int), .slice A n c, .slice A2 m c2] w fun e w' => ∃ g d vs, e = .returned (.slice (some ⟨g, 0, none⟩) vs.length d) ∧ OwnV 22 w' w.heap.size g d vs ∧ Pieces w' w.heap.size vs (sumB k [] :: sumsFrom (sumB k) [] (pcs bs zs)) ∧ Below w.heap.size w w' := by
  rcases kinds6 hk with rfl | rfl | rfl | rfl | rfl | rfl
  · exact sumsOf_0 A n c bs A2 m c2 zs w hn h hnc hc hm h2 hml
  · exact sumsOf_1 A n c bs A2 m c2 zs w hn h hnc hc hm h2 hml
  · exact sumsOf_2 A n c bs A2 m c2 zs w hn h hnc hc hm h2 hml
  · exact sumsOf_3 A n c bs A2 m c2 zs w hn h hnc hc hm h2 hml
  · exact sumsOf_4 A n c bs A2 m c2 zs w hn h hnc hc hm h2 hml
  · exact sumsOf_5 A n c bs A2 m c2 zs w hn h hnc hc hm h2 hml

theorem sumsFrom_len (S : List UInt8 → List UInt8) (acc : List UInt8) (ps : List (List UInt8)) : (sumsFrom S acc ps).length = ps.length := by
  induction ps generalizing acc with
  | nil => rfl
  | cons p r ih => rw [sumsFrom, List.length_cons, ih, List.length_cons]

theorem OwnV.cap {T : TypeId} {w : World} {base g c : Nat} {vs : List Value} (h : OwnV T w base g c vs) : vs.length ≤ c ∧ c ≤ maxLen := by
  rcases h.2 with ⟨e, _⟩ | ⟨g', c', cur, e, hb', hh, h1, h2, _⟩
  · cases e
  · injection e with _ _ e3
    subst e3
    exact ⟨h1, h2⟩

set_option maxRecDepth 100000 in
set_option maxHeartbeats 1000000 in
theorem sumsOf_law (k : Nat) (hk : k < 6) (A : Option Addr) (n c : Nat) (bs : List UInt8) (A2 : Option Addr) (m c2 : Nat) (zs : List Int) (w : World) (hn : n = bs.length) (h : Rd w w.heap.size A bs) (hnc : n ≤ c) (hc : c ≤ 140737488351232) (hm : m = zs.length) (h2 : RdI w w.heap.size A2 zs) (hml : m ≤ 1048576) :
    Calls Tryz.prog 11 #[.int .i64 (k : Int), .slice A n c, .slice A2 m c2] w fun e w' => ∃ g d vs, e = .returned (.slice (some ⟨g, 1, none⟩) (m + 1) (d - 1)) ∧ vs.length = m + 2 ∧ OwnV 22 w' w.heap.size g d vs ∧ Pieces w' w.heap.size vs (sumB k [] :: sumsFrom (sumB k) [] (pcs bs zs)) ∧ Below w.heap.size w w' := by
  have HN := Lib.hid hn
  have HM := Lib.hid hm
  have HRI := Lib.hid h2
  clear hn hm h2
  go_enter Tryz.func11, Tryz.ntmps11
  go_wp2_with fail
  refine (sumsOf_fnv k hk A n c bs A2 m c2 zs w HN.out h hnc hc HM.out HRI.out hml).mono ?_
  rintro e w1 ⟨g, d, vs, rfl, ho, hp, hb⟩
  have hl : vs.length = m + 2 := by rw [hp.1, List.length_cons, sumsFrom_len, pcs_len, HM.out]
  have hcap := ho.cap
  simp only [maxLen] at hcap
  obtain ⟨c1, c2'⟩ := hcap
  rw [hl] at c1 ⊢
  have HL := Lib.hid hl
  have t0 : (((m + 2 : Nat) : Int) == 0) = false := beq_eq_false_iff_ne.2 (by omega)
  have t1 : (1 : Int) ≤ ((m + 2 : Nat) : Int) := by omega
  have t2 : ((m + 2 : Nat) : Int) ≤ (d : Int) := by omega
  clear hl
  go_wp2_with fail
  go_ret
  exact ⟨g, d, vs, by simp, HL.out, ho, hp, hb⟩

end Go.Proofs.YtaplmdbcjckbkaaGreat

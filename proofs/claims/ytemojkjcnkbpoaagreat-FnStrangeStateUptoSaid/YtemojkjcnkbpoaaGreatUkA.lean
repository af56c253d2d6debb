/-
  UnmarshalBinary of the hashes of the kinds 0 to 6 at bytes that are no state of that kind: an error, and nothing turns. No condition.
-/
import Derived.Test.YtemojkjcnkbpoaaGreatMkA
import Derived.Laws.IdiomStrings
import Derived.WalkSpells
namespace Go.Proofs.YtemojkjcnkbpoaaGreat
open Go.RowKit Go.Shelf
set_option linter.unusedVariables false

theorem errNew_any (s : ByteArray) (w : World) : Calls Tryz.prog 73 #[.string s] w fun e w' => ∃ v, e = .returned (.iface 122 v) ∧ Below w.heap.size w w' := by
  go_enter Tryz.func73, Tryz.ntmps73
  go_wp2
  go_ret
  exact ⟨_, rfl, (Below.refl _ _).alloc (Nat.le_refl _) _⟩

/-- what UnmarshalBinary does at bytes that are no state -/
structure UK (P : Program) (tw : TypeId) (fU : FuncId) (St : World → Nat → List UInt8 → Prop) (Bad : List UInt8 → Prop) : Prop where
  nU : ∀ k a w, (nilAhead (k + 1) tw (.pointer (some a)) "UnmarshalBinary").run P w = .ok (some false) w
  mU : ∀ k a w, (method (k + 1) tw (.pointer (some a)) "UnmarshalBinary").run P w = .ok (fU, .pointer (some a)) w
  eU : ∀ args w, (callFunc fU args).run P w = .ok (.enter fU args) w
  unm : ∀ (h : Nat) (bs : List UInt8) (A : Option Addr) (n c : Nat) (p : List UInt8) (w : World), St w h bs → n = p.length → Rd w w.heap.size A p → n ≤ c → c ≤ 9223372036854775807 → Bad p →
    Calls P fU #[.pointer (some ⟨h, 0, none⟩), .slice A n c] w fun e w' => ∃ v, e = .returned (.iface 122 v) ∧ Below w.heap.size w w'

theorem conv4 {w : World} {A : Option Addr} {p : List UInt8} (c : Nat) (hr : Rd w w.heap.size A p) (h4 : 4 ≤ p.length) : (convert 22 9 (.slice A 4 c)).run Tryz.prog w = .ok (.string ⟨(p.take 4).toArray⟩) w := by
  rcases hr with e | ⟨b, o, rfl, hb, hc⟩
  · subst e; simp at h4
  · have hl : (p.take 4).length = 4 := by rw [List.length_take]; omega
    have := run_convert_bytes_back (P := Tryz.prog) w 22 9 5 ⟨b, o, none⟩ c (p.take 4) Tryz.underlying22 Tryz.underlying5 Tryz.underlying9 (fun j hj => by
      rw [addr_add]
      have hj' : j < p.length := by omega
      rw [hc j p[j] (List.getElem?_eq_getElem hj')]
      simp [List.getElem_take])
    rw [hl] at this
    exact this

set_option maxRecDepth 100000 in
set_option maxHeartbeats 1000000 in
theorem unm_0 (h : Nat) (A : Option Addr) (n c : Nat) (p : List UInt8) (w : World) (hn : n = p.length) (hr : Rd w w.heap.size A p) (hnc : n ≤ c) (hc : c ≤ 9223372036854775807) (hb : p.length ≠ 8 ∨ p.take 4 ≠ magic0) :
    Calls Tryz.prog 95 #[.pointer (some ⟨h, 0, none⟩), .slice A n c] w fun e w' => ∃ v, e = .returned (.iface 122 v) ∧ Below w.heap.size w w' := by
  have EN := Lib.hid (fun s => errNew_any s w)
  by_cases h4 : n < 4
  · have t1 : (n : Int) < 4 := by omega
    clear hr hb hn
    go_enter Tryz.func95, Tryz.ntmps95
    go_wp2_with fail
    refine (EN.out _).mono ?_
    rintro e w' ⟨v, rfl, b1⟩
    go_wp2_with fail
    go_ret
    exact ⟨v, rfl, b1⟩
  · have t1 : ¬ (n : Int) < 4 := by omega
    have t2 : 4 ≤ c := by omega
    have t5 : (4 : Int) ≤ (c : Int) := by omega
    have hcv := conv4 c hr (by omega)
    obtain ⟨P4, hP⟩ : ∃ P4, p.take 4 = P4 := ⟨_, rfl⟩
    rw [hP] at hcv hb
    have HP := Lib.hid hP
    by_cases h5 : P4 = magic0
    · have t3 : (P4 == magic0) = true := beq_iff_eq.2 h5
      have t4 : ((n : Int) != 8) = true := by
        rcases hb with h | h
        · rw [bne_iff_ne]; omega
        · exact absurd h5 h
      unfold magic0 at t3
      clear hr hb hn hP h5
      go_enter Tryz.func95, Tryz.ntmps95
      go_wp2_with fail
      refine (EN.out _).mono ?_
      rintro e w' ⟨v, rfl, b1⟩
      go_wp2_with fail
      go_ret
      exact ⟨v, rfl, b1⟩
    · have t3 : (P4 == magic0) = false := beq_eq_false_iff_ne.2 h5
      unfold magic0 at t3
      clear hr hb hn hP h5
      go_enter Tryz.func95, Tryz.ntmps95
      go_wp2_with fail
      refine (EN.out _).mono ?_
      rintro e w' ⟨v, rfl, b1⟩
      go_wp2_with fail
      go_ret
      exact ⟨v, rfl, b1⟩
theorem uk_0 : UK Tryz.prog 73 95 St0 (fun p => p.length ≠ 8 ∨ p.take 4 ≠ magic0) := {
  nU := fun k a w => by kernel_rfl
  mU := fun k a w => by kernel_rfl
  eU := enters_of Tryz.func95 (by kernel_rfl) rfl
  unm := fun h bs A n c p w hs hn hr hnc hc hb => unm_0 h A n c p w hn hr hnc hc hb }

set_option maxRecDepth 100000 in
set_option maxHeartbeats 1000000 in
theorem unm_1 (h : Nat) (A : Option Addr) (n c : Nat) (p : List UInt8) (w : World) (hn : n = p.length) (hr : Rd w w.heap.size A p) (hnc : n ≤ c) (hc : c ≤ 9223372036854775807) (hb : p.length ≠ 8 ∨ p.take 4 ≠ magic1) :
    Calls Tryz.prog 106 #[.pointer (some ⟨h, 0, none⟩), .slice A n c] w fun e w' => ∃ v, e = .returned (.iface 122 v) ∧ Below w.heap.size w w' := by
  have EN := Lib.hid (fun s => errNew_any s w)
  by_cases h4 : n < 4
  · have t1 : (n : Int) < 4 := by omega
    clear hr hb hn
    go_enter Tryz.func106, Tryz.ntmps106
    go_wp2_with fail
    refine (EN.out _).mono ?_
    rintro e w' ⟨v, rfl, b1⟩
    go_wp2_with fail
    go_ret
    exact ⟨v, rfl, b1⟩
  · have t1 : ¬ (n : Int) < 4 := by omega
    have t2 : 4 ≤ c := by omega
    have t5 : (4 : Int) ≤ (c : Int) := by omega
    have hcv := conv4 c hr (by omega)
    obtain ⟨P4, hP⟩ : ∃ P4, p.take 4 = P4 := ⟨_, rfl⟩
    rw [hP] at hcv hb
    have HP := Lib.hid hP
    by_cases h5 : P4 = magic1
    · have t3 : (P4 == magic1) = true := beq_iff_eq.2 h5
      have t4 : ((n : Int) != 8) = true := by
        rcases hb with h | h
        · rw [bne_iff_ne]; omega
        · exact absurd h5 h
      unfold magic1 at t3
      clear hr hb hn hP h5
      go_enter Tryz.func106, Tryz.ntmps106
      go_wp2_with fail
      refine (EN.out _).mono ?_
      rintro e w' ⟨v, rfl, b1⟩
      go_wp2_with fail
      go_ret
      exact ⟨v, rfl, b1⟩
    · have t3 : (P4 == magic1) = false := beq_eq_false_iff_ne.2 h5
      unfold magic1 at t3
      clear hr hb hn hP h5
      go_enter Tryz.func106, Tryz.ntmps106
      go_wp2_with fail
      refine (EN.out _).mono ?_
      rintro e w' ⟨v, rfl, b1⟩
      go_wp2_with fail
      go_ret
      exact ⟨v, rfl, b1⟩
theorem uk_1 : UK Tryz.prog 75 106 St1 (fun p => p.length ≠ 8 ∨ p.take 4 ≠ magic1) := {
  nU := fun k a w => by kernel_rfl
  mU := fun k a w => by kernel_rfl
  eU := enters_of Tryz.func106 (by kernel_rfl) rfl
  unm := fun h bs A n c p w hs hn hr hnc hc hb => unm_1 h A n c p w hn hr hnc hc hb }

set_option maxRecDepth 100000 in
set_option maxHeartbeats 1000000 in
theorem unm_2 (h : Nat) (A : Option Addr) (n c : Nat) (p : List UInt8) (w : World) (hn : n = p.length) (hr : Rd w w.heap.size A p) (hnc : n ≤ c) (hc : c ≤ 9223372036854775807) (hb : p.length ≠ 12 ∨ p.take 4 ≠ magic2) :
    Calls Tryz.prog 115 #[.pointer (some ⟨h, 0, none⟩), .slice A n c] w fun e w' => ∃ v, e = .returned (.iface 122 v) ∧ Below w.heap.size w w' := by
  have EN := Lib.hid (fun s => errNew_any s w)
  by_cases h4 : n < 4
  · have t1 : (n : Int) < 4 := by omega
    clear hr hb hn
    go_enter Tryz.func115, Tryz.ntmps115
    go_wp2_with fail
    refine (EN.out _).mono ?_
    rintro e w' ⟨v, rfl, b1⟩
    go_wp2_with fail
    go_ret
    exact ⟨v, rfl, b1⟩
  · have t1 : ¬ (n : Int) < 4 := by omega
    have t2 : 4 ≤ c := by omega
    have t5 : (4 : Int) ≤ (c : Int) := by omega
    have hcv := conv4 c hr (by omega)
    obtain ⟨P4, hP⟩ : ∃ P4, p.take 4 = P4 := ⟨_, rfl⟩
    rw [hP] at hcv hb
    have HP := Lib.hid hP
    by_cases h5 : P4 = magic2
    · have t3 : (P4 == magic2) = true := beq_iff_eq.2 h5
      have t4 : ((n : Int) != 12) = true := by
        rcases hb with h | h
        · rw [bne_iff_ne]; omega
        · exact absurd h5 h
      unfold magic2 at t3
      clear hr hb hn hP h5
      go_enter Tryz.func115, Tryz.ntmps115
      go_wp2_with fail
      refine (EN.out _).mono ?_
      rintro e w' ⟨v, rfl, b1⟩
      go_wp2_with fail
      go_ret
      exact ⟨v, rfl, b1⟩
    · have t3 : (P4 == magic2) = false := beq_eq_false_iff_ne.2 h5
      unfold magic2 at t3
      clear hr hb hn hP h5
      go_enter Tryz.func115, Tryz.ntmps115
      go_wp2_with fail
      refine (EN.out _).mono ?_
      rintro e w' ⟨v, rfl, b1⟩
      go_wp2_with fail
      go_ret
      exact ⟨v, rfl, b1⟩
theorem uk_2 : UK Tryz.prog 78 115 St2 (fun p => p.length ≠ 12 ∨ p.take 4 ≠ magic2) := {
  nU := fun k a w => by kernel_rfl
  mU := fun k a w => by kernel_rfl
  eU := enters_of Tryz.func115 (by kernel_rfl) rfl
  unm := fun h bs A n c p w hs hn hr hnc hc hb => unm_2 h A n c p w hn hr hnc hc hb }

set_option maxRecDepth 100000 in
set_option maxHeartbeats 1000000 in
theorem unm_3 (h : Nat) (A : Option Addr) (n c : Nat) (p : List UInt8) (w : World) (hn : n = p.length) (hr : Rd w w.heap.size A p) (hnc : n ≤ c) (hc : c ≤ 9223372036854775807) (hb : p.length ≠ 12 ∨ p.take 4 ≠ magic3) :
    Calls Tryz.prog 126 #[.pointer (some ⟨h, 0, none⟩), .slice A n c] w fun e w' => ∃ v, e = .returned (.iface 122 v) ∧ Below w.heap.size w w' := by
  have EN := Lib.hid (fun s => errNew_any s w)
  by_cases h4 : n < 4
  · have t1 : (n : Int) < 4 := by omega
    clear hr hb hn
    go_enter Tryz.func126, Tryz.ntmps126
    go_wp2_with fail
    refine (EN.out _).mono ?_
    rintro e w' ⟨v, rfl, b1⟩
    go_wp2_with fail
    go_ret
    exact ⟨v, rfl, b1⟩
  · have t1 : ¬ (n : Int) < 4 := by omega
    have t2 : 4 ≤ c := by omega
    have t5 : (4 : Int) ≤ (c : Int) := by omega
    have hcv := conv4 c hr (by omega)
    obtain ⟨P4, hP⟩ : ∃ P4, p.take 4 = P4 := ⟨_, rfl⟩
    rw [hP] at hcv hb
    have HP := Lib.hid hP
    by_cases h5 : P4 = magic3
    · have t3 : (P4 == magic3) = true := beq_iff_eq.2 h5
      have t4 : ((n : Int) != 12) = true := by
        rcases hb with h | h
        · rw [bne_iff_ne]; omega
        · exact absurd h5 h
      unfold magic3 at t3
      clear hr hb hn hP h5
      go_enter Tryz.func126, Tryz.ntmps126
      go_wp2_with fail
      refine (EN.out _).mono ?_
      rintro e w' ⟨v, rfl, b1⟩
      go_wp2_with fail
      go_ret
      exact ⟨v, rfl, b1⟩
    · have t3 : (P4 == magic3) = false := beq_eq_false_iff_ne.2 h5
      unfold magic3 at t3
      clear hr hb hn hP h5
      go_enter Tryz.func126, Tryz.ntmps126
      go_wp2_with fail
      refine (EN.out _).mono ?_
      rintro e w' ⟨v, rfl, b1⟩
      go_wp2_with fail
      go_ret
      exact ⟨v, rfl, b1⟩
theorem uk_3 : UK Tryz.prog 80 126 St3 (fun p => p.length ≠ 12 ∨ p.take 4 ≠ magic3) := {
  nU := fun k a w => by kernel_rfl
  mU := fun k a w => by kernel_rfl
  eU := enters_of Tryz.func126 (by kernel_rfl) rfl
  unm := fun h bs A n c p w hs hn hr hnc hc hb => unm_3 h A n c p w hn hr hnc hc hb }

set_option maxRecDepth 100000 in
set_option maxHeartbeats 1000000 in
theorem unm_4 (h : Nat) (A : Option Addr) (n c : Nat) (p : List UInt8) (w : World) (hn : n = p.length) (hr : Rd w w.heap.size A p) (hnc : n ≤ c) (hc : c ≤ 9223372036854775807) (hb : p.length ≠ 20 ∨ p.take 4 ≠ magic4) :
    Calls Tryz.prog 134 #[.pointer (some ⟨h, 0, none⟩), .slice A n c] w fun e w' => ∃ v, e = .returned (.iface 122 v) ∧ Below w.heap.size w w' := by
  have EN := Lib.hid (fun s => errNew_any s w)
  by_cases h4 : n < 4
  · have t1 : (n : Int) < 4 := by omega
    clear hr hb hn
    go_enter Tryz.func134, Tryz.ntmps134
    go_wp2_with fail
    refine (EN.out _).mono ?_
    rintro e w' ⟨v, rfl, b1⟩
    go_wp2_with fail
    go_ret
    exact ⟨v, rfl, b1⟩
  · have t1 : ¬ (n : Int) < 4 := by omega
    have t2 : 4 ≤ c := by omega
    have t5 : (4 : Int) ≤ (c : Int) := by omega
    have hcv := conv4 c hr (by omega)
    obtain ⟨P4, hP⟩ : ∃ P4, p.take 4 = P4 := ⟨_, rfl⟩
    rw [hP] at hcv hb
    have HP := Lib.hid hP
    by_cases h5 : P4 = magic4
    · have t3 : (P4 == magic4) = true := beq_iff_eq.2 h5
      have t4 : ((n : Int) != 20) = true := by
        rcases hb with h | h
        · rw [bne_iff_ne]; omega
        · exact absurd h5 h
      unfold magic4 at t3
      clear hr hb hn hP h5
      go_enter Tryz.func134, Tryz.ntmps134
      go_wp2_with fail
      refine (EN.out _).mono ?_
      rintro e w' ⟨v, rfl, b1⟩
      go_wp2_with fail
      go_ret
      exact ⟨v, rfl, b1⟩
    · have t3 : (P4 == magic4) = false := beq_eq_false_iff_ne.2 h5
      unfold magic4 at t3
      clear hr hb hn hP h5
      go_enter Tryz.func134, Tryz.ntmps134
      go_wp2_with fail
      refine (EN.out _).mono ?_
      rintro e w' ⟨v, rfl, b1⟩
      go_wp2_with fail
      go_ret
      exact ⟨v, rfl, b1⟩
theorem uk_4 : UK Tryz.prog 83 134 St4 (fun p => p.length ≠ 20 ∨ p.take 4 ≠ magic4) := {
  nU := fun k a w => by kernel_rfl
  mU := fun k a w => by kernel_rfl
  eU := enters_of Tryz.func134 (by kernel_rfl) rfl
  unm := fun h bs A n c p w hs hn hr hnc hc hb => unm_4 h A n c p w hn hr hnc hc hb }

set_option maxRecDepth 100000 in
set_option maxHeartbeats 1000000 in
theorem unm_5 (h : Nat) (A : Option Addr) (n c : Nat) (p : List UInt8) (w : World) (hn : n = p.length) (hr : Rd w w.heap.size A p) (hnc : n ≤ c) (hc : c ≤ 9223372036854775807) (hb : p.length ≠ 20 ∨ p.take 4 ≠ magic5) :
    Calls Tryz.prog 143 #[.pointer (some ⟨h, 0, none⟩), .slice A n c] w fun e w' => ∃ v, e = .returned (.iface 122 v) ∧ Below w.heap.size w w' := by
  have EN := Lib.hid (fun s => errNew_any s w)
  by_cases h4 : n < 4
  · have t1 : (n : Int) < 4 := by omega
    clear hr hb hn
    go_enter Tryz.func143, Tryz.ntmps143
    go_wp2_with fail
    refine (EN.out _).mono ?_
    rintro e w' ⟨v, rfl, b1⟩
    go_wp2_with fail
    go_ret
    exact ⟨v, rfl, b1⟩
  · have t1 : ¬ (n : Int) < 4 := by omega
    have t2 : 4 ≤ c := by omega
    have t5 : (4 : Int) ≤ (c : Int) := by omega
    have hcv := conv4 c hr (by omega)
    obtain ⟨P4, hP⟩ : ∃ P4, p.take 4 = P4 := ⟨_, rfl⟩
    rw [hP] at hcv hb
    have HP := Lib.hid hP
    by_cases h5 : P4 = magic5
    · have t3 : (P4 == magic5) = true := beq_iff_eq.2 h5
      have t4 : ((n : Int) != 20) = true := by
        rcases hb with h | h
        · rw [bne_iff_ne]; omega
        · exact absurd h5 h
      unfold magic5 at t3
      clear hr hb hn hP h5
      go_enter Tryz.func143, Tryz.ntmps143
      go_wp2_with fail
      refine (EN.out _).mono ?_
      rintro e w' ⟨v, rfl, b1⟩
      go_wp2_with fail
      go_ret
      exact ⟨v, rfl, b1⟩
    · have t3 : (P4 == magic5) = false := beq_eq_false_iff_ne.2 h5
      unfold magic5 at t3
      clear hr hb hn hP h5
      go_enter Tryz.func143, Tryz.ntmps143
      go_wp2_with fail
      refine (EN.out _).mono ?_
      rintro e w' ⟨v, rfl, b1⟩
      go_wp2_with fail
      go_ret
      exact ⟨v, rfl, b1⟩
theorem uk_5 : UK Tryz.prog 85 143 St5 (fun p => p.length ≠ 20 ∨ p.take 4 ≠ magic5) := {
  nU := fun k a w => by kernel_rfl
  mU := fun k a w => by kernel_rfl
  eU := enters_of Tryz.func143 (by kernel_rfl) rfl
  unm := fun h bs A n c p w hs hn hr hnc hc hb => unm_5 h A n c p w hn hr hnc hc hb }

set_option maxRecDepth 100000 in
set_option maxHeartbeats 1000000 in
theorem unm_6 (h : Nat) (A : Option Addr) (n c : Nat) (p : List UInt8) (w : World) (hn : n = p.length) (hr : Rd w w.heap.size A p) (hnc : n ≤ c) (hc : c ≤ 9223372036854775807) (hb : p.length ≠ 8 ∨ p.take 4 ≠ magic6) :
    Calls Tryz.prog 151 #[.pointer (some ⟨h, 0, none⟩), .slice A n c] w fun e w' => ∃ v, e = .returned (.iface 122 v) ∧ Below w.heap.size w w' := by
  have EN := Lib.hid (fun s => errNew_any s w)
  by_cases h4 : n < 4
  · have t1 : (n : Int) < 4 := by omega
    clear hr hb hn
    go_enter Tryz.func151, Tryz.ntmps151
    go_wp2_with fail
    refine (EN.out _).mono ?_
    rintro e w' ⟨v, rfl, b1⟩
    go_wp2_with fail
    go_ret
    exact ⟨v, rfl, b1⟩
  · have t1 : ¬ (n : Int) < 4 := by omega
    have t2 : 4 ≤ c := by omega
    have t5 : (4 : Int) ≤ (c : Int) := by omega
    have hcv := conv4 c hr (by omega)
    obtain ⟨P4, hP⟩ : ∃ P4, p.take 4 = P4 := ⟨_, rfl⟩
    rw [hP] at hcv hb
    have HP := Lib.hid hP
    by_cases h5 : P4 = magic6
    · have t3 : (P4 == magic6) = true := beq_iff_eq.2 h5
      have t4 : ((n : Int) != 8) = true := by
        rcases hb with h | h
        · rw [bne_iff_ne]; omega
        · exact absurd h5 h
      unfold magic6 at t3
      clear hr hb hn hP h5
      go_enter Tryz.func151, Tryz.ntmps151
      go_wp2_with fail
      refine (EN.out _).mono ?_
      rintro e w' ⟨v, rfl, b1⟩
      go_wp2_with fail
      go_ret
      exact ⟨v, rfl, b1⟩
    · have t3 : (P4 == magic6) = false := beq_eq_false_iff_ne.2 h5
      unfold magic6 at t3
      clear hr hb hn hP h5
      go_enter Tryz.func151, Tryz.ntmps151
      go_wp2_with fail
      refine (EN.out _).mono ?_
      rintro e w' ⟨v, rfl, b1⟩
      go_wp2_with fail
      go_ret
      exact ⟨v, rfl, b1⟩
theorem uk_6 : UK Tryz.prog 86 151 St6 (fun p => p.length ≠ 8 ∨ p.take 4 ≠ magic6) := {
  nU := fun k a w => by kernel_rfl
  mU := fun k a w => by kernel_rfl
  eU := enters_of Tryz.func151 (by kernel_rfl) rfl
  unm := fun h bs A n c p w hs hn hr hnc hc hb => unm_6 h A n c p w hn hr hnc hc hb }

end Go.Proofs.YtemojkjcnkbpoaaGreat

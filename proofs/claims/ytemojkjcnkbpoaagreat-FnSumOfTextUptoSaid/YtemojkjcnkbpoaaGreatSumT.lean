/-
  impl.SumOfText at any kind of hash: the sum of the text. Condition: the lengths' bounds.
-/
import Derived.Test.YtemojkjcnkbpoaaGreatEncP
import Derived.Test.YtemojkjcnkbpoaaGreatStA
import Derived.Test.YtemojkjcnkbpoaaGreatImp
namespace Go.Proofs.YtemojkjcnkbpoaaGreat
open Go.RowKit Go.Shelf
set_option linter.unusedVariables false

/-- a hash as a writer: its own block, and what it has been given; nothing is collected -/
def StH (St : World → Nat → List UInt8 → Prop) (hb : Nat) : World → (Nat → Prop) → List UInt8 → List (List UInt8) → Prop := fun w M txt _ => (∀ k, M k ↔ k = hb) ∧ St w hb txt

theorem wtr_hk {kind : Int} {tw : TypeId} {fW fS : FuncId} {St : World → Nat → List UInt8 → Prop} {sum : List UInt8 → List UInt8} (K : HK Tryz.prog 17 kind tw fW fS St sum) (hb : Nat) : Wtr Tryz.prog tw ⟨hb, 0, none⟩ fW (StH St hb) := {
  nil := fun k w => K.nW k _ w
  met := fun k w => K.mW k _ w
  ent := K.eW
  put := by
    intro w M txt rows ge o n c chunk hS hM hge hblk hn hn0 hnc hc hcell hl
    obtain ⟨cs, T, hcs⟩ := hblk
    have hne : ge ≠ hb := fun e => hM ((hS.1 ge).2 e)
    have hsrc : Src w hb (some ⟨ge, o, none⟩) chunk := .inr ⟨ge, o, cs, T, rfl, hcs, hne, fun i x hx => by
      have := hcell i x hx
      rwa [cell_of_row w ge _ cs T (0, 0) hcs] at this⟩
    refine (K.write hb (some ⟨ge, o, none⟩) n c txt chunk w hS.2 hn hsrc hnc (by omega)).mono ?_
    rintro e w' ⟨h1, h2, h3⟩
    refine ⟨h1, M, ⟨hS.1, h2⟩, ⟨h3.os, h3.tape, h3.output, h3.size, fun k hk hm => h3.block k hk (fun e => hm ((hS.1 k).2 (by injection e)))⟩, fun _ _ h => h⟩
  same := fun w w' M txt rows h hk => ⟨h.1, K.keep h.2 (hk hb ((h.1 hb).2 rfl))⟩
  lt := fun w M txt rows h k hk => by rw [(h.1 k).1 hk]; exact K.lt h.2 }

theorem behT (w : World) : Calls Tryz.prog 20 #[] w fun e w' => e = .returned (.tuple #[]) ∧ w' = w := by
  go_enter Tryz.func20, Tryz.ntmps20
  go_wp2
  go_end0
  exact ⟨rfl, rfl⟩

theorem beh_hk (St : World → Nat → List UInt8 → Prop) (hb : Nat) : Beh Tryz.prog 20 #[] (StH St hb) := {
  ent := enters_of Tryz.func20 (by kernel_rfl) rfl
  beh := fun w M txt rows hS _ _ => (behT w).mono fun e w' ⟨h1, h2⟩ => by subst h2; exact ⟨h1, M, hS, Fr.refl _ _, fun _ _ h => h⟩ }

set_option maxRecDepth 100000 in
set_option maxHeartbeats 2000000 in
theorem sumOfText_hk {kind : Int} {tw : TypeId} {fW fS : FuncId} {St : World → Nat → List UInt8 → Prop} {sum : List UInt8 → List UInt8} (K : HK Tryz.prog 17 kind tw fW fS St sum) (A : Option Addr) (n c : Nat) (bs : List UInt8) (A2 : Option Addr) (m c2 : Nat) (zs : List Int) (w : World)
    (hn : n = bs.length) (h : Rd w w.heap.size A bs) (hnc : n ≤ c) (hc : c ≤ 1048576) (hm : m = zs.length) (h2 : RdI w w.heap.size A2 zs) (hml : m ≤ 1048576) :
    Calls Tryz.prog 15 #[.int .i64 kind, .slice A n c, .slice A2 m c2] w fun e w' => ∃ g d, e = .returned (.slice (some ⟨g, 0, none⟩) (sum (Asc.enc bs)).length d) ∧ Rd w' w'.heap.size (some ⟨g, 0, none⟩) (sum (Asc.enc bs)) ∧ Below w.heap.size w w' := by
  have HN := Lib.hid hn
  have HM := Lib.hid hm
  have HRD := Lib.hid h
  have HRI := Lib.hid h2
  clear hn hm h h2
  have n3 := K.mS
  have n4 := K.nS
  have n6 := K.eS
  go_enter Tryz.func15, Tryz.ntmps15
  go_wp2_with fail
  refine (K.new w).mono ?_
  rintro e w1 ⟨hb, rfl, hst, hge, hlt, hb1⟩
  have z1 := hb1.size
  have EP := Lib.hid (encodePieces_any (wtr_hk K hb) (beh_hk St hb) A n c bs A2 m c2 zs w1 (fun k => k = hb) ⟨fun _ => Iff.rfl, hst⟩ HN.out ((HRD.out.below hb1).mono z1) hnc hc HM.out (RdI.below' HRI.out hb1 z1) hml)
  have HB1 := Lib.hid hb1
  clear hst hb1
  go_wp2_with fail
  refine EP.out.mono ?_
  rintro e w2 ⟨rfl, ⟨M', hS, hF, hM⟩⟩
  have KS := Lib.hid (K.sum hb (Asc.enc bs) w2 hS.2)
  have z2 := hF.size
  have bw2 : Below w.heap.size w w2 := HB1.out.trans (hF.toBelow (by omega) (fun k hk e => by omega))
  have HB2 := Lib.hid bw2
  clear hS hF hM EP bw2
  go_wp2_with fail
  refine KS.out.mono ?_
  rintro e w3 ⟨g, d, rfl, o3, b3⟩
  have hr := o3.rd
  have bw3 : Below w.heap.size w w3 := HB2.out.trans (b3.mono HB2.out.size)
  obtain ⟨L, hL⟩ : ∃ L, L = (sum (Asc.enc bs)).length := ⟨_, rfl⟩
  rw [← hL]
  have HL := Lib.hid hL
  clear hL o3 b3 KS
  go_wp2_with fail
  go_ret
  exact ⟨g, d, by rw [← HL.out]; rfl, hr, bw3⟩

theorem sumOfText_a (k : Nat) (hk : k < 11) (A : Option Addr) (n c : Nat) (bs : List UInt8) (A2 : Option Addr) (m c2 : Nat) (zs : List Int) (w : World)
    (hn : n = bs.length) (h : Rd w w.heap.size A bs) (hnc : n ≤ c) (hc : c ≤ 1048576) (hm : m = zs.length) (h2 : RdI w w.heap.size A2 zs) (hml : m ≤ 1048576) :
    Calls Tryz.prog 15 #[.int .i64 (k : Int), .slice A n c, .slice A2 m c2] w fun e w' => ∃ g d, e = .returned (.slice (some ⟨g, 0, none⟩) (lenA k) d) ∧ Rd w' w'.heap.size (some ⟨g, 0, none⟩) (sumA k (Asc.enc bs)) ∧ Below w.heap.size w w' := by
  by_cases h7 : k < 7
  · rw [← sumA_len k hk (Asc.enc bs)]
    have e2 : sumA k = sumK k := funext fun bs => if_pos h7
    rw [e2]
    rcases kinds7 h7 with rfl | rfl | rfl | rfl | rfl | rfl | rfl
    · exact sumOfText_hk hk_0 A n c bs A2 m c2 zs w hn h hnc hc hm h2 hml
    · exact sumOfText_hk hk_1 A n c bs A2 m c2 zs w hn h hnc hc hm h2 hml
    · exact sumOfText_hk hk_2 A n c bs A2 m c2 zs w hn h hnc hc hm h2 hml
    · exact sumOfText_hk hk_3 A n c bs A2 m c2 zs w hn h hnc hc hm h2 hml
    · exact sumOfText_hk hk_4 A n c bs A2 m c2 zs w hn h hnc hc hm h2 hml
    · exact sumOfText_hk hk_5 A n c bs A2 m c2 zs w hn h hnc hc hm h2 hml
    · exact sumOfText_hk hk_6 A n c bs A2 m c2 zs w hn h hnc hc hm h2 hml
  · rw [← sumA_len k hk (Asc.enc bs)]
    rcases kinds4 hk h7 with rfl | rfl | rfl | rfl
    · exact sumOfText_hk hk_7 A n c bs A2 m c2 zs w hn h hnc hc hm h2 hml
    · exact sumOfText_hk hk_8 A n c bs A2 m c2 zs w hn h hnc hc hm h2 hml
    · exact sumOfText_hk hk_9 A n c bs A2 m c2 zs w hn h hnc hc hm h2 hml
    · exact sumOfText_hk hk_10 A n c bs A2 m c2 zs w hn h hnc hc hm h2 hml

end Go.Proofs.YtemojkjcnkbpoaaGreat

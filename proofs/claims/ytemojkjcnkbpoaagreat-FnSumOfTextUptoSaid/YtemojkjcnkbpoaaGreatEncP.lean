/-
  impl.encodePieces over any writer and any closure behind it: the text of all data, and what is collected behind each piece. Condition: the lengths' bounds.
-/
import Derived.Test.YtemojkjcnkbpoaaGreatEncV
import Derived.Test.YtemojkjcnkbpoaaGreatEncM
import Derived.Test.YtemojkjcnkbpoaaGreatSumsP
namespace Go.Proofs.YtemojkjcnkbpoaaGreat
open Go.RowKit
set_option linter.unusedVariables false

theorem encG_more (acc p : List UInt8) : encG (acc ++ p) = encG acc ++ encG (dropG acc ++ p) ∧ dropG (acc ++ p) = dropG (dropG acc ++ p) := by
  have h := encG_cut (acc ++ p) (4 * (acc.length / 4)) (acc.length / 4) (by rw [List.length_append]; omega) rfl
  have e1 : (acc ++ p).take (4 * (acc.length / 4)) = acc.take (4 * (acc.length / 4)) := List.take_append_of_le_length (by omega)
  have e2 : (acc ++ p).drop (4 * (acc.length / 4)) = dropG acc ++ p := List.drop_append_of_le_length (by omega)
  rw [e1, e2] at h
  exact h
theorem encG_all (x : List UInt8) : encG x ++ Asc.enc (dropG x) = Asc.enc x := by
  unfold encG dropG
  rw [← Asc.enc_append (x.length / 4) _ _ (by rw [List.length_take]; omega), List.take_append_drop]
theorem encG_len (x : List UInt8) : (encG x).length ≤ 2 * x.length := by
  have h := Asc.enc_len (x.take (4 * (x.length / 4)))
  unfold encG
  rw [List.length_take] at h
  omega
theorem pcs_flat (bs : List UInt8) (zs : List Int) : (pcs bs zs).flatten = bs := by
  induction zs generalizing bs with
  | nil => simp [pcs]
  | cons z r ih => rw [pcs, List.flatten_cons, ih, List.take_append_drop]
theorem drop_flat {ps : List (List UInt8)} {i : Nat} {p : List UInt8} (h : ps[i]? = some p) : (ps.drop i).flatten = p ++ (ps.drop (i + 1)).flatten := by
  obtain ⟨hl, he⟩ := List.getElem?_eq_some_iff.1 h
  rw [List.drop_eq_getElem_cons hl, he, List.flatten_cons]

/-- a closure that collects -/
structure Beh (P : Program) (fB : FuncId) (caps : Array Value) (St : World → (Nat → Prop) → List UInt8 → List (List UInt8) → Prop) : Prop where
  ent : ∀ args w, (callFunc fB args).run P w = .ok (.enter fB args) w
  beh : ∀ (w : World) (M : Nat → Prop) (txt : List UInt8) (rows : List (List UInt8)), St w M txt rows → txt.length ≤ 20000000 → rows.length ≤ 1999999 →
    Calls P fB caps w fun e w' => e = .returned (.tuple #[]) ∧ ∃ M', St w' M' txt (rows ++ [txt]) ∧ Fr M w w' ∧ ∀ k, k < w.heap.size → M' k → M k

structure PPost (w w' : World) (M : Nat → Prop) (St : World → (Nat → Prop) → List UInt8 → List (List UInt8) → Prop) (txt : List UInt8) (rows : List (List UInt8)) : Prop where
  st : ∃ M', St w' M' txt rows ∧ Fr M w w' ∧ ∀ k, k < w.heap.size → M' k → M k

theorem nil_encw (k : Nat) (a : Addr) (w : World) : (nilAhead (k + 1) 96 (.pointer (some a)) "Write").run Tryz.prog w = .ok (some false) w := by kernel_rfl
theorem m_encw (k : Nat) (a : Addr) (w : World) : (method (k + 1) 96 (.pointer (some a)) "Write").run Tryz.prog w = .ok (158, .pointer (some a)) w := by kernel_rfl
theorem nil_encc (k : Nat) (a : Addr) (w : World) : (nilAhead (k + 1) 96 (.pointer (some a)) "Close").run Tryz.prog w = .ok (some false) w := by kernel_rfl
theorem m_encc (k : Nat) (a : Addr) (w : World) : (method (k + 1) 96 (.pointer (some a)) "Close").run Tryz.prog w = .ok (157, .pointer (some a)) w := by kernel_rfl

theorem sumsFrom_length (S : List UInt8 → List UInt8) (acc : List UInt8) (ps : List (List UInt8)) : (sumsFrom S acc ps).length = ps.length := by
  induction ps generalizing acc with
  | nil => rfl
  | cons p r ih => rw [sumsFrom, List.length_cons, ih, List.length_cons]

/-- what holds at the head of each round -/
structure Rnd (w1 wr : World) (M : Nat → Prop) (ge : Nat) (wv : Value) (St : World → (Nat → Prop) → List UInt8 → List (List UInt8) → Prop) (bs : List UInt8) (ps : List (List UInt8)) (i : Nat) (acc : List UInt8) (done : List (List UInt8)) : Prop where
  enc : EncB wr ge wv (dropG acc)
  st : ∃ M', St wr M' (encG acc) done ∧ Fr (fun k => M k ∨ k = ge) w1 wr ∧ ∀ k, k < w1.heap.size → M' k → M k
  all : acc ++ (ps.drop i).flatten = bs
  rows : done ++ sumsFrom encG acc (ps.drop i) = sumsFrom encG [] ps
  len : done.length = i

set_option maxRecDepth 100000 in
set_option maxHeartbeats 4000000 in
theorem encodePieces_any {tw : TypeId} {pw : Addr} {fW fB : FuncId} {caps : Array Value} {St : World → (Nat → Prop) → List UInt8 → List (List UInt8) → Prop} (W : Wtr Tryz.prog tw pw fW St) (Bh : Beh Tryz.prog fB caps St) (A : Option Addr) (n c : Nat) (bs : List UInt8) (A2 : Option Addr) (m c2 : Nat) (zs : List Int) (w : World) (M : Nat → Prop)
    (hS : St w M [] []) (hn : n = bs.length) (h : Rd w w.heap.size A bs) (hnc : n ≤ c) (hc : c ≤ 1048576) (hm : m = zs.length) (h2 : RdI w w.heap.size A2 zs) (hml : m ≤ 1048576) :
    Calls Tryz.prog 19 #[.iface tw (.pointer (some pw)), .slice A n c, .slice A2 m c2, .func (.func fB) #[] caps] w fun e w' => e = .returned (.bool true) ∧ PPost w w' M St (Asc.enc bs) (sumsFrom encG [] (pcs bs zs) ++ [Asc.enc bs]) := by
  have HN := Lib.hid hn
  have HM := Lib.hid hm
  have HRD := Lib.hid h
  have HRI := Lib.hid h2
  have HS := Lib.hid hS
  have hMlt : ∀ k, M k → k < w.heap.size := W.lt w M [] [] hS
  have HMLT := Lib.hid hMlt
  clear hn hm h h2 hS hMlt
  have n1 := fun k a w => nil_encw k a w
  have n2 := fun k a w => m_encw k a w
  have n3 := fun k a w => nil_encc k a w
  have n4 := fun k a w => m_encc k a w
  have n5 := Bh.ent
  go_enter Tryz.func19, Tryz.ntmps19
  go_wp2_with fail
  refine (new_encoder tw pw w).mono ?_
  rintro e w0 ⟨rfl, hE0, hb0, sz0⟩
  obtain ⟨ge, hge⟩ : ∃ ge, ge = w.heap.size := ⟨_, rfl⟩
  rw [← hge] at hE0 ⊢
  have HGE := Lib.hid hge
  have hge0 : ge < w0.heap.size := by omega
  have HE0 := Lib.hid hE0
  have HB0 := Lib.hid hb0
  clear hge hE0 hb0
  go_wp2_with fail
  refine (pieces_any A n c bs A2 m c2 zs w0 HN.out ((HRD.out.below HB0.out).mono HB0.out.size) hnc (by omega) HM.out (RdI.below' HRI.out HB0.out HB0.out.size) hml).mono ?_
  rintro e w1 ⟨G, D, vs, rfl, hO, hP, hb1⟩
  have hmp : vs.length = m + 1 := by rw [hP.1, pcs_len, HM.out]
  rw [hmp]
  obtain ⟨ps, hps⟩ : ∃ ps, ps = pcs bs zs := ⟨_, rfl⟩
  rw [← hps] at hP
  have z1 := hb1.size
  have hflat : ps.flatten = bs := by rw [hps]; exact pcs_flat _ _
  have hge1 : ge < w1.heap.size := by omega
  have hME : ¬ M ge := fun h => by have := HMLT.out ge h; have := HGE.out; omega
  have R0 : Rnd w1 w1 M ge (.iface tw (.pointer (some pw))) St bs ps 0 [] [] := by
    have hbw : Below w.heap.size w w1 := HB0.out.trans (hb1.mono HB0.out.size)
    refine ⟨HE0.out.keep (hb1.block ge hge0), ⟨M, W.same w w1 M [] [] HS.out (fun k hk => hbw.block k (HMLT.out k hk)), Fr.refl _ _, fun _ _ h => h⟩, hflat, rfl, rfl⟩
  have HR0 := Lib.hid R0
  have HO := Lib.hid hO
  have HP := Lib.hid hP
  have HMP := Lib.hid hmp
  have HPS := Lib.hid hps
  have HB1 := Lib.hid hb1
  clear R0 hO hP hmp hps hflat hb1
  go_wp2_with fail
  go_loopg [21] (m + 1) (fun gk iv wr => ∃ (i : Nat) (acc : List UInt8) (done : List (List UInt8)), i + gk = m + 1 ∧ iv = .int .i64 (i : Int) ∧ Hid (Rnd w1 wr M ge (.iface tw (.pointer (some pw))) St bs ps i acc done))
  case atStart => exact ⟨0, [], [], by omega, rfl, HR0⟩
  case round =>
    obtain ⟨i, acc, done, hi, rfl, hR⟩ := hrel
    have HI := Lib.hid hi
    have him : i ≤ m + 1 := by omega
    clear hi
    obtain ⟨M', s1, s2, s3⟩ := hR.out.st
    have hME' : ¬ M' ge := fun h => hME (s3 ge hge1 h)
    by_cases hlt : i < m + 1
    · obtain ⟨v, hv⟩ : ∃ v, vs[i]? = some v := ⟨_, List.getElem?_eq_getElem (by have := HMP.out; omega)⟩
      obtain ⟨p, hp⟩ : ∃ p, ps[i]? = some p := ⟨_, List.getElem?_eq_getElem (by have := HMP.out; have := HP.out.1; omega)⟩
      obtain ⟨gi, di, cs, rfl, hgi, hgb, hpd, hdm, hcs⟩ := HP.out.2 i v p hv hp
      have hgil := heap_lt hgb
      have hgM : ¬ M gi := fun h => by have := HMLT.out gi h; have := HB0.out.size; omega
      have hgg : gi ≠ ge := by omega
      have hGM : ¬ M G := fun h => by have := HMLT.out G h; have := HO.out.lt'; have := HB0.out.size; omega
      have hGg : G ≠ ge := by have := HO.out.lt'; omega
      have hcv : wr.cell? ⟨G, i, none⟩ = some (.slice (some ⟨gi, 0, none⟩) p.length di) := (World.cell?_of_block (a := ⟨G, i, none⟩) (s2.block G HO.out.lt'.2 (fun h => h.elim hGM hGg))).trans (HO.out.cell hv)
      have hrd : RdN wr M' ge (some ⟨gi, 0, none⟩) p := by
        refine .inr ⟨gi, 0, rfl, Nat.lt_of_lt_of_le hgil s2.size, fun h => hgM (s3 gi hgil h), hgg, fun k x hx => ?_⟩
        have hr1 := (HP.out.2 i _ p hv hp).rd
        rw [World.cell?_of_block (a := ⟨gi, 0 + k, none⟩) (s2.block gi hgil (fun h => h.elim hgM hgg))]
        rcases hr1 with e | ⟨b, o, e, _, hc⟩
        · subst e; simp at hx
        · injection e with e; injection e with e1 e2; subst e1; subst e2
          exact hc k x hx
      have hall := hR.out.all
      rw [drop_flat hp] at hall
      have hlen : acc.length + p.length ≤ 1048576 := by
        have := congrArg List.length hall
        rw [List.length_append, List.length_append] at this
        have := HN.out
        omega
      have hel := encG_len acc
      have hmore := encG_more acc p
      obtain ⟨pl, hpl⟩ : ∃ pl, pl = p.length := ⟨_, rfl⟩
      rw [← hpl] at hcv hpd hlen
      have CW := Lib.hid (enc_write W ge (some ⟨gi, 0, none⟩) pl di p (dropG acc) wr M' (encG acc) done hR.out.enc (dropG_len _) s1 hME' hpl hrd hpd (by simp only [maxLen] at hdm; omega) (by omega) (by omega))
      have hnext := sumsFrom_step encG acc p ps i hp
      have hrows := hR.out.rows
      rw [hnext] at hrows
      have HALL := Lib.hid hall
      have HMORE := Lib.hid hmore
      have HROWS := Lib.hid hrows
      have HDL := Lib.hid hR.out.len
      have t1 : (i : Int) < ((m + 1 : Nat) : Int) := by omega
      have HPL := Lib.hid hpl
      clear hall hmore hrows hnext hcs hgb hv hp hpl hrd hR
      go_wp2_with fail
      refine CW.out.mono ?_
      rintro e w2 ⟨rfl, hput⟩
      rw [← HMORE.out.1, ← HMORE.out.2] at hput
      obtain ⟨q1, M2, q2, q3, q4⟩ := hput
      have CB := Lib.hid (Bh.beh w2 M2 (encG (acc ++ p)) done q2 (by have := encG_len (acc ++ p); rw [List.length_append] at this; have := HPL.out; omega) (by have := HDL.out; omega))
      have hME2 : ¬ M2 ge := fun h => hME' (q4 ge (Nat.lt_of_lt_of_le hge1 s2.size) h)
      have Q1 := Lib.hid q1
      clear q1 CW
      go_wp2_with fail
      refine CB.out.mono ?_
      rintro e w3 ⟨rfl, M3, b1, b2, b3⟩
      have hR3 : Rnd w1 w3 M ge (.iface tw (.pointer (some pw))) St bs ps (i + 1) (acc ++ p) (done ++ [encG (acc ++ p)]) := by
        have hsz2 : ge < w2.heap.size := Nat.lt_of_lt_of_le hge1 (Nat.le_trans s2.size q3.size)
        refine ⟨Q1.out.keep (b2.block ge hsz2 hME2), ⟨M3, b1, ?_, ?_⟩, ?_, ?_, ?_⟩
        · refine (s2.trans q3 (fun k hk h => h.elim (fun h => .inl (s3 k hk h)) .inr)).trans b2 (fun k hk h => .inl ?_)
          exact s3 k hk (q4 k (Nat.lt_of_lt_of_le hk s2.size) h)
        · intro k hk h
          have hk2 : k < wr.heap.size := Nat.lt_of_lt_of_le hk s2.size
          exact s3 k hk (q4 k hk2 (b3 k (Nat.lt_of_lt_of_le hk2 q3.size) h))
        · rw [List.append_assoc]; exact HALL.out
        · rw [List.append_assoc]; exact HROWS.out
        · rw [List.length_append, List.length_singleton, HDL.out]
      have HR3 := Lib.hid hR3
      clear hR3 b1 b2 b3 CB q2 q3 q4 s1 s2 s3
      go_wp2_with fail
      go_roundg (gk - 1)
      case measure => have := HI.out; omega
      case rel => exact ⟨i + 1, acc ++ p, done ++ [encG (acc ++ p)], by have := HI.out; omega, by go_num, HR3⟩
    · obtain rfl : i = m + 1 := by omega
      have hd : ps.drop (m + 1) = [] := List.drop_eq_nil_of_le (by have := HMP.out; have := HP.out.1; omega)
      have hall := hR.out.all
      have hrows := hR.out.rows
      rw [hd] at hall hrows
      simp only [List.flatten_nil, List.append_nil, sumsFrom] at hall hrows
      subst hall
      have hel := encG_len acc
      have hlen : acc.length ≤ 1048576 := by have := HN.out; omega
      have CC := Lib.hid (enc_close W ge (dropG acc) wr M' (encG acc) done hR.out.enc (dropG_len _) s1 hME' (by omega))
      have t1 : ¬ (((m + 1 : Nat) : Int) < ((m + 1 : Nat) : Int)) := by omega
      have HROWS := Lib.hid hrows
      have HDL := Lib.hid hR.out.len
      clear hrows hR hd
      go_wp2_with fail
      refine CC.out.mono ?_
      rintro e w2 ⟨rfl, M2, q1, q2, q3, q4⟩
      rw [encG_all] at q2
      have CB := Lib.hid (Bh.beh w2 M2 (Asc.enc acc) done q2 (by have := Asc.enc_len acc; omega) (by have := HDL.out; omega))
      clear q1 CC
      go_wp2_with fail
      refine CB.out.mono ?_
      rintro e w3 ⟨rfl, M3, b1, b2, b3⟩
      have hpost : PPost w w3 M St (Asc.enc acc) (sumsFrom encG [] (pcs acc zs) ++ [Asc.enc acc]) := by
        have hbw : Below w.heap.size w w1 := HB0.out.trans (HB1.out.mono HB0.out.size)
        rw [← HPS.out, ← HROWS.out]
        have f1 : Fr (fun k => M k ∨ k = ge) w1 w3 := by
          refine (s2.trans q3 (fun k hk h => h.elim (fun h => .inl (s3 k hk h)) .inr)).trans b2 (fun k hk h => .inl ?_)
          exact s3 k hk (q4 k (Nat.lt_of_lt_of_le hk s2.size) h)
        refine ⟨M3, b1, ⟨f1.os.trans hbw.os, f1.tape.trans hbw.tape, f1.output.trans hbw.output, Nat.le_trans hbw.size f1.size, fun k hk hm => ?_⟩, fun k hk h => ?_⟩
        · refine (f1.block k (Nat.lt_of_lt_of_le hk hbw.size) (fun h => h.elim hm (fun e => ?_))).trans (hbw.block k hk)
          have := HGE.out
          omega
        · have hk1 : k < w1.heap.size := Nat.lt_of_lt_of_le hk hbw.size
          have hk2 : k < wr.heap.size := Nat.lt_of_lt_of_le hk1 s2.size
          exact s3 k hk1 (q4 k hk2 (b3 k (Nat.lt_of_lt_of_le hk2 q3.size) h))
      have HPOST := Lib.hid hpost
      clear hpost b1 b2 b3 CB q2 q3 q4 s1 s2 s3
      go_wp2_with fail
      go_ret
      exact ⟨rfl, HPOST.out⟩

end Go.Proofs.YtemojkjcnkbpoaaGreat

/-
  FnEncoderGrows: what an encoder has written never changes: each row begins with the one before. Condition: the lengths' bounds.
-/
import Derived.Test.YtmddbfcghddacaaStr
import Derived.Test.YtmddbfcghddacaaSame
namespace Go.Proofs.Ytmddbfcghddacaa
open Go.RowKit
set_option linter.unusedVariables false

theorem grow_sums (acc : List UInt8) (ps : List (List UInt8)) : ∀ (i : Nat) (x y : List UInt8), (sumsFrom encG acc ps ++ [Asc.enc (acc ++ ps.flatten)])[i]? = some x → (sumsFrom encG acc ps ++ [Asc.enc (acc ++ ps.flatten)])[i + 1]? = some y → ∃ t, y = x ++ t := by
  induction ps generalizing acc with
  | nil => intro i x y h1 h2; simp [sumsFrom] at h2
  | cons p r ih =>
    intro i x y h1 h2
    have e : (p :: r).flatten = p ++ r.flatten := List.flatten_cons
    rw [e, ← List.append_assoc, sumsFrom, List.cons_append] at h1 h2
    cases i with
    | succ i =>
      rw [List.getElem?_cons_succ] at h1 h2
      exact ih (acc ++ p) i x y h1 h2
    | zero =>
      rw [List.getElem?_cons_zero] at h1
      rw [List.getElem?_cons_succ] at h2
      injection h1 with h1
      subst h1
      cases r with
      | nil =>
        simp only [sumsFrom, List.nil_append, List.getElem?_cons_zero, List.flatten_nil, List.append_nil] at h2
        injection h2 with h2
        subst h2
        exact ⟨_, (encG_all (acc ++ p)).symm⟩
      | cons q r =>
        rw [sumsFrom, List.cons_append, List.getElem?_cons_zero] at h2
        injection h2 with h2
        subst h2
        exact ⟨_, (encG_more (acc ++ p) q).1⟩

theorem len_sums (acc : List UInt8) (ps : List (List UInt8)) : ∀ (i : Nat) (x : List UInt8), (sumsFrom encG acc ps ++ [Asc.enc (acc ++ ps.flatten)])[i]? = some x → x.length ≤ 2 * (acc ++ ps.flatten).length + 5 := by
  induction ps generalizing acc with
  | nil =>
    intro i x h1
    rw [sumsFrom, List.nil_append] at h1
    have hx : x = Asc.enc (acc ++ ([] : List (List UInt8)).flatten) := by
      have := List.mem_of_getElem? h1
      simpa using this
    have := Asc.enc_len (acc ++ ([] : List (List UInt8)).flatten)
    rw [hx]
    omega
  | cons p r ih =>
    intro i x h1
    have e : (p :: r).flatten = p ++ r.flatten := List.flatten_cons
    rw [e, ← List.append_assoc, sumsFrom, List.cons_append] at h1
    rw [e, ← List.append_assoc]
    cases i with
    | succ i =>
      rw [List.getElem?_cons_succ] at h1
      exact ih (acc ++ p) i x h1
    | zero =>
      rw [List.getElem?_cons_zero] at h1
      injection h1 with h1
      subst h1
      have := encG_len (acc ++ p)
      have h3 : ((acc ++ p) ++ r.flatten).length = (acc ++ p).length + r.flatten.length := List.length_append
      omega

set_option maxRecDepth 100000 in
set_option maxHeartbeats 4000000 in
theorem encoderGrows_walk (A0 : Option Addr) (c0 : Nat) (bs0 : List UInt8) (A1 : Option Addr) (c1 : Nat) (zs1 : List Int) (w : World) (rd0 : Rd w w.heap.size A0 bs0) (lc0 : bs0.length ≤ c0) (lm0 : c0 ≤ 1048576) (rd1 : RdI w w.heap.size A1 zs1) (lc1 : zs1.length ≤ c1) (lm1 : c1 ≤ 1048576) :
    Calls Try.prog 3 #[.slice A0 bs0.length c0, .slice A1 zs1.length c1] w fun e w' => e = .returned (.bool true) ∧ Below w.heap.size w w' := by
  obtain ⟨n, hn⟩ : ∃ n, n = bs0.length := ⟨_, rfl⟩
  obtain ⟨m, hm⟩ : ∃ m, m = zs1.length := ⟨_, rfl⟩
  rw [← hn] at lc0 ⊢
  rw [← hm] at lc1 ⊢
  have HN := Lib.hid hn
  have HM := Lib.hid hm
  clear hn hm
  go_enter Try.func3, Try.ntmps3
  go_wp2_with fail
  refine (encodeStream_any A0 n c0 bs0 A1 m c1 zs1 w HN.out rd0 lc0 lm0 HM.out rd1 (by omega)).mono ?_
  rintro e w1 ⟨G, D, vs, rfl, hvl, hd1, hd2, hO, hP, hb1⟩
  obtain ⟨rs, hrs⟩ : ∃ rs, rs = sumsFrom encG [] (pcs bs0 zs1) ++ [Asc.enc bs0] := ⟨_, rfl⟩
  have hg : ∀ (i : Nat) (x y : List UInt8), rs[i]? = some x → rs[i + 1]? = some y → ∃ t, y = x ++ t := by
    have := grow_sums [] (pcs bs0 zs1)
    rw [pcs_flat, List.nil_append] at this
    rw [hrs]
    exact this
  have hgl : ∀ (i : Nat) (x : List UInt8), rs[i]? = some x → x.length ≤ 4000000 := by
    have := len_sums [] (pcs bs0 zs1)
    rw [pcs_flat, List.nil_append] at this
    rw [hrs]
    intro i x hx
    have := this i x hx
    have := HN.out
    omega
  have HGL := Lib.hid hgl
  clear hgl
  rw [← hrs] at hP
  obtain ⟨L, hL⟩ : ∃ L, L = m + 2 := ⟨_, rfl⟩
  rw [← hL] at hvl hd1 ⊢
  have tL : (((L : Nat) : Int) != (m : Int) + 2) = false := by simp; omega
  have hLb : L ≤ 1048578 := by omega
  have hL2 : 2 ≤ L := by omega
  have HG := Lib.hid hg
  have HO := Lib.hid hO
  have HP := Lib.hid hP
  have HVL := Lib.hid hvl
  have hd2' : D ≤ 9223372036854775807 := hd2
  clear hg hO hP hvl hrs hL hd2
  go_wp2_with fail
  go_loopg [6] L (fun gk iv wr => ∃ i j : Nat, j + gk = L + 1 ∧ Hid (j = i + 1) ∧ iv = .int .i64 (j : Int) ∧ Hid (∃ q, wr = w1.drewN q))
  case atStart => exact ⟨0, 1, by omega, rfl, rfl, ⟨0, rfl⟩⟩
  case round =>
    obtain ⟨i, j, hi, HJ, rfl, HQ⟩ := hrel
    have HI := Lib.hid hi
    clear hi
    by_cases hlt : j < L
    · have hiv : i + 1 < vs.length := by have := HVL.out; have := HJ.out; omega
      have hip : i + 1 < rs.length := by have := HP.out.1; omega
      obtain ⟨x, hx⟩ : ∃ x, rs[i]? = some x := ⟨_, List.getElem?_eq_getElem (by omega)⟩
      obtain ⟨y, hy⟩ : ∃ y, rs[i + 1]? = some y := ⟨_, List.getElem?_eq_getElem hip⟩
      obtain ⟨t, ht⟩ := HG.out i x y hx hy
      obtain ⟨v1, hv1⟩ : ∃ v, vs[i]? = some v := ⟨_, List.getElem?_eq_getElem (by omega)⟩
      obtain ⟨v2, hv2⟩ : ∃ v, vs[i + 1]? = some v := ⟨_, List.getElem?_eq_getElem hiv⟩
      have k1 : wr.cell? ⟨G, i, none⟩ = some v1 := by obtain ⟨q, e⟩ := HQ.out; rw [e]; exact HO.out.cell hv1
      have k2 : wr.cell? ⟨G, j, none⟩ = some v2 := by obtain ⟨q, e⟩ := HQ.out; rw [e, HJ.out]; exact HO.out.cell hv2
      have p1 := HP.out.2 i v1 x hv1 hx
      have p2 := HP.out.2 (i + 1) v2 y hv2 hy
      obtain ⟨g1, d1, cs1, e1, _, _, q1, q1', _⟩ := id p1
      obtain ⟨g2, d2, cs2, e2, _, _, q2, q2', _⟩ := id p2
      subst e1 e2
      have r1 : Rd wr w1.heap.size (some ⟨g1, 0, none⟩) x := by obtain ⟨q, e⟩ := HQ.out; rw [e]; exact p1.rd.drewN q
      have r2 : Rd wr w1.heap.size (some ⟨g2, 0, none⟩) y := by obtain ⟨q, e⟩ := HQ.out; rw [e]; exact p2.rd.drewN q
      obtain ⟨l1, hl1⟩ : ∃ l1, l1 = x.length := ⟨_, rfl⟩
      obtain ⟨l2, hl2⟩ : ∃ l2, l2 = y.length := ⟨_, rfl⟩
      have h12 : l1 ≤ l2 := by rw [hl1, hl2, ht, List.length_append]; omega
      rw [← hl1] at k1 q1
      rw [← hl2] at k2 q2
      have hd2b : d2 ≤ 9223372036854775807 := q2'
      have hs := fun W => slice_hi (some ⟨g2, 0, none⟩) l2 d2 l1 (by omega) W
      have hyx : y.take l1 = x := by rw [ht, hl1, List.take_append_of_le_length (Nat.le_refl _), List.take_of_length_le (Nat.le_refl _)]
      have CS : Hid (∀ q', Calls Try.prog 7 #[.slice (some ⟨g2, 0, none⟩) l1 d2, .slice (some ⟨g1, 0, none⟩) l1 d1] (wr.drewN q') fun e w'' => e = .returned (.bool true) ∧ ∃ k, w'' = (wr.drewN q').drewN k) := fun q' => by
        have := same_any (some ⟨g2, 0, none⟩) (some ⟨g1, 0, none⟩) l1 l1 d2 d1 (y.take l1) x w1.heap.size w1.heap.size (wr.drewN q') (by rw [hyx]; exact hl1) hl1 ((r2.take l1).drewN q') (r1.drewN q') (by have := HGL.out i x hx; rw [hyx]; omega) (by have := HGL.out i x hx; omega)
        rw [hyx, decide_eq_true rfl] at this
        exact this
      have t1 : decide (l2 < l1) = false := by simp; omega
      have hl2b : l2 ≤ 4000000 := by rw [hl2]; exact HGL.out (i + 1) y hy
      have o1 : IntKind.i64.wrap ((j : Int) - 1) = (i : Int) := by rw [IntKind.wrap_i64]; have := HJ.out; omega
      have b1 : (0 : Int) ≤ (j : Int) := by omega
      have b2 : (j : Int) < (L : Int) := by omega
      have b3 : (0 : Int) ≤ (i : Int) := by omega
      have b4 : (i : Int) < (L : Int) := by have := HJ.out; omega
      clear hx hy hv1 hv2 p1 p2 r1 r2 ht hl1 hl2 hyx
      go_wp2_with fail
      go_quiet ((go_at_call 7; exact Calls.quiet_of (CS.out _)))
      go_wp2_with fail
      go_roundg (gk - 1)
      case measure => have := HI.out; omega
      case rel => exact ⟨i + 1, j + 1, by have := HI.out; omega, by show _ = _; have := HJ.out; omega, by go_num, by obtain ⟨q, e⟩ := HQ.out; exact ⟨_, by rw [e]; exact World.drewN_drewN _ _ _⟩⟩
    · have b2 : ¬ (j : Int) < (L : Int) := by omega
      go_wp2_with fail
      go_ret
      obtain ⟨q, e⟩ := HQ.out
      rw [e]
      exact ⟨rfl, ⟨hb1.os, hb1.tape, hb1.output, hb1.size, hb1.block⟩⟩

end Go.Proofs.Ytmddbfcghddacaa

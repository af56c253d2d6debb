/-
  FnAdlerReversed: data in reverse order have the same first sum, and both second sums follow from each other, for every list of bytes. No condition.
-/
import Derived.Test.YtaplmdbcjckbkaaAdler
import Derived.Test.YtaplmdbcjckbkaaSame
import Derived.Deep.LoopGhost
namespace Go.Proofs.Ytaplmdbcjckbkaa
open Go.RowKit

theorem Adl.sm_reverse (x : List UInt8) : Adl.sm x.reverse = Adl.sm x := by
  induction x with
  | nil => rfl
  | cons a x ih => rw [List.reverse_cons, Adl.sm_append, ih]; simp only [Adl.sm]; omega

theorem Adl.ws_reverse (x : List UInt8) : Adl.ws x + Adl.ws x.reverse = (x.length + 1) * Adl.sm x := by
  induction x with
  | nil => rfl
  | cons a x ih =>
    rw [List.reverse_cons, Adl.ws_append, Adl.sm_reverse]
    simp only [Adl.sm, Adl.ws, List.length_cons, List.length_nil, Nat.add_mul, Nat.mul_add, Nat.one_mul, Nat.zero_add] at ih ⊢
    omega

theorem Adl.a_reverse (x : List UInt8) : Adl.a x.reverse = Adl.a x := by rw [Adl.a, Adl.a, Adl.sm_reverse]

theorem Adl.b_reverse (x : List UInt8) : ((Adl.b x : Int) + Adl.b x.reverse) % 65521 = (2 * ((x.length % 65521 : Nat) : Int) + (((x.length % 65521 : Nat) : Int) + 1) * ((Adl.a x : Int) - 1)) % 65521 := by
  have h := Adl.ws_reverse x
  have e1 : ((Adl.b x : Int) + Adl.b x.reverse) % 65521 = (((x.length + Adl.ws x) + (x.length + Adl.ws x.reverse) : Nat) : Int) % 65521 := by
    simp only [Adl.b, List.length_reverse]
    omega
  have e2 : (x.length + Adl.ws x) + (x.length + Adl.ws x.reverse) = 2 * x.length + (x.length + 1) * Adl.sm x := by omega
  rw [e1, e2]
  obtain ⟨q, hq⟩ : ∃ q, x.length = 65521 * q + x.length % 65521 := ⟨x.length / 65521, by omega⟩
  obtain ⟨p, hp⟩ : ∃ p, 1 + Adl.sm x = 65521 * p + Adl.a x := ⟨(1 + Adl.sm x) / 65521, by unfold Adl.a; omega⟩
  generalize x.length % 65521 = n at *
  generalize Adl.a x = a at *
  generalize Adl.sm x = s at *
  generalize x.length = L at *
  subst hq
  have hs : (s : Int) = 65521 * p + a - 1 := by omega
  have e3 : ((2 * (65521 * q + n) + (65521 * q + n + 1) * s : Nat) : Int) = 2 * n + (n + 1) * ((a : Int) - 1) + 65521 * (2 * q + q * s + (n + 1) * p) := by
    simp only [Int.natCast_add, Int.natCast_mul, Int.cast_ofNat_Int, hs]
    simp only [Int.add_mul, Int.mul_add, Int.mul_sub, Int.one_mul, Int.mul_one, Int.mul_assoc, Int.mul_comm, Int.mul_left_comm]
    omega
  rw [e3, Int.add_mul_emod_self_left]

theorem rev_step {bs : List UInt8} {n k : Nat} {x : UInt8} (hn : n = bs.length) (hk : k < n) (hx : bs[n - 1 - k]? = some x) : (bs.drop (n - k)).reverse ++ [x] = (bs.drop (n - (k + 1))).reverse := by
  have hi : n - 1 - k < bs.length := by omega
  have e : bs.drop (n - (k + 1)) = x :: bs.drop (n - k) := by
    have h1 : n - (k + 1) = n - 1 - k := by omega
    rw [h1, List.drop_eq_getElem_cons hi]
    obtain ⟨_, he⟩ := List.getElem?_eq_some_iff.1 hx
    rw [he]
    congr 2
    omega
  rw [e, List.reverse_cons]

set_option maxRecDepth 100000 in
set_option maxHeartbeats 2000000 in
theorem adlerReversed_walk (A0 : Option Addr) (c0 : Nat) (bs0 : List UInt8) (w : World) (rd0 : Rd w w.heap.size A0 bs0) (lc0 : bs0.length ≤ c0) (lm0 : c0 ≤ 140737488351232) :
    Calls Try.prog 7 #[.slice A0 bs0.length c0] w fun e w' => e = .returned (.bool true) ∧ Below w.heap.size w w' := by
  obtain ⟨n, hn⟩ : ∃ n, n = bs0.length := ⟨_, rfl⟩
  rw [← hn] at lc0 ⊢
  have HN := Lib.hid hn
  clear hn
  go_enter Try.func7, Try.ntmps7
  go_wp2
  go_loopg [3, 4] n (fun gk v i wr => ∃ (k g c : Nat), k + gk = n ∧ i = .int .i64 ((n : Int) - 1 - k) ∧ v = .slice (some ⟨g, 0, none⟩) k c ∧ Hid (Own wr w.heap.size g c (bs0.drop (n - k)).reverse) ∧ Hid (Below w.heap.size w wr))
  case atStart =>
    refine ⟨0, w.heap.size, 0, by omega, by go_num, rfl, ?_, (Below.refl _ _).alloc (Nat.le_refl _) _⟩
    have e : bs0.drop (n - 0) = [] := List.drop_eq_nil_of_le (by have := HN.out; omega)
    rw [e]
    exact Own.empty w _ (Nat.le_refl _)
  case round =>
    obtain ⟨k, g, c, hk, rfl, rfl, hown, hbel⟩ := hrel
    have HK := Lib.hid hk
    have hkn : k ≤ n := by omega
    clear hk
    have hlen : ((bs0.drop (n - k)).reverse).length = k := by rw [List.length_reverse, List.length_drop]; have := HN.out; omega
    by_cases hlt : k < n
    · obtain ⟨b, off, x, rfl, hb, hx, hc⟩ := (rd0.below hbel.out).at (k := n - 1 - k) (by have := HN.out; omega)
      have HX := Lib.hid hx
      have hsz := hbel.out.size
      have i1 : (0 : Int) ≤ (n : Int) - 1 - k := by omega
      have i2 : ((n : Int) - 1 - k).toNat = n - 1 - k := by omega
      clear hx
      go_wp2_with (at_builtin; refine wpList_append_bytes rfl _ _ 22 rfl Try.underlying22 w.heap.size g c _ [x] k 1 rfl hlen.symm (hown.out.alloc _) (wr.heap.size + 1) (some ⟨wr.heap.size, 0, none⟩) 1 rfl rfl (Rd.lit wr [x] _ (Nat.lt_succ_self _)) (by rw [hlen]; simp only [List.length_singleton]; omega) (by simp; omega) ?_; intro g' c' w1 h1 h2)
      have hst := rev_step HN.out hlt HX.out
      rw [hst] at h1
      clear hlen hst
      go_roundg (gk - 1)
      case measure => have := HK.out; omega
      case rel =>
        refine ⟨k + 1, g', c', by have := HK.out; omega, by go_num, rfl, h1, ?_⟩
        exact (hbel.out.alloc hsz _).grown h2 (by simp; omega) (fun j hj => by injection hj with hj; subst hj; exact hown.out.lt'.1)
    · obtain rfl : k = n := by omega
      have hfull : (bs0.drop (k - k)).reverse = bs0.reverse := by simp
      rw [hfull] at hown hlen
      have hsz := hbel.out.size
      have e1 := Adl.a_reverse bs0
      have e2 := Adl.b_reverse bs0
      have la := Adl.a_lt bs0
      have lb := Adl.b_lt bs0
      have ld := Adl.b_lt bs0.reverse
      have hk0 : k % 65521 < 65521 := Nat.mod_lt _ (by omega)
      rw [← HN.out] at e2
      clear hfull hlt
      go_wp2_with fail
      refine (adler_any A0 k c0 bs0 wr HN.out ((rd0.below hbel.out).mono hsz) (by have := HN.out; omega)).mono ?_
      rintro e w1 ⟨rfl, hb1⟩
      go_wp2_with fail
      refine (adler_any (some ⟨g, 0, none⟩) k c bs0.reverse w1 hlen.symm ((hown.out.rd.below hb1).mono hb1.size) (by rw [hlen]; omega)).mono ?_
      rintro e w2 ⟨rfl, hb2⟩
      rw [e1]
      have hfin : Below w.heap.size w w2 := (hbel.out.trans (hb1.mono hsz)).trans (hb2.mono (Nat.le_trans hsz hb1.size))
      generalize Adl.a bs0 = a at *
      generalize Adl.b bs0 = b at *
      generalize Adl.b bs0.reverse = d at *
      generalize hm : k % 65521 = m at *
      have HM := Lib.hid hm
      have e3 : ((b + d : Int) % 65521 == (2 * (m : Int) + ((m : Int) + 1) * ((a : Int) - 1)) % 65521) = true := by rw [beq_iff_eq]; exact e2
      have p1 : -65521 ≤ ((m : Int) + 1) * ((a : Int) - 1) := by
        have : ((m : Int) + 1) * (-1) ≤ ((m : Int) + 1) * ((a : Int) - 1) := Int.mul_le_mul_of_nonneg_left (by omega) (by omega)
        omega
      have p2 : ((m : Int) + 1) * ((a : Int) - 1) ≤ 4293001441 := by
        have : ((m : Int) + 1) * ((a : Int) - 1) ≤ ((m : Int) + 1) * 65521 := Int.mul_le_mul_of_nonneg_left (by omega) (by omega)
        omega
      have hm' : (k : Int) % 65521 = (m : Int) := by have := HM.out; omega
      have e4 : ((a : Int) == (a : Int)) = true := by simp
      clear hm e2 e1 hlen hown hb1 hb2
      go_wp2_with fail
      refine (rest_any _ _ (by omega) (by omega)).mono ?_
      rintro e w3 ⟨rfl, rfl⟩
      go_wp2_with fail
      refine (rest_any _ _ (by omega) (by omega)).mono ?_
      rintro e w3 ⟨rfl, rfl⟩
      go_wp2_with fail
      go_ret
      exact ⟨rfl, hfin⟩

end Go.Proofs.Ytaplmdbcjckbkaa

/-
  FnFnvLowBits: the last k bits of a sum of FNV, k in 0 .. 8, follow from the last k bits of all bytes, for every kind and all lists of bytes. No condition.
-/
import Derived.Test.YtaplmdbcjckbkaaFnvS
import Derived.Test.YtaplmdbcjckbkaaBits8
import Derived.Test.YtaplmdbcjckbkaaApp
import Derived.Test.YtaplmdbcjckbkaaRow
import Derived.Test.YtaplmdbcjckbkaaPower
import Derived.RegionTactic
import Derived.IntWalk
import Derived.BigRegion
import Derived.Deep.DeepCutAuto
namespace Go.Proofs.Ytaplmdbcjckbkaa
open Go.RowKit
set_option linter.unusedVariables false

def mixn (m x y : Nat) : Nat := (x &&& m) ||| (y &&& (255 - m))
theorem mixn_lt (m x y : Nat) (hm : m < 256) : mixn m x y < 2 ^ 8 :=
  Nat.or_lt_two_pow (Nat.and_lt_two_pow _ (by omega)) (Nat.and_lt_two_pow _ (by omega))
def mixb (m : Nat) (x y : UInt8) : UInt8 := UInt8.ofNat (mixn m x.toNat y.toNat)
theorem mixb_toNat (m : Nat) (x y : UInt8) (hm : m < 256) : (mixb m x y).toNat = mixn m x.toNat y.toNat := by
  unfold mixb
  rw [UInt8.toNat_ofNat']
  exact Nat.mod_eq_of_lt (mixn_lt m _ _ hm)
theorem mixn_mod (j : Nat) (hj : j ≤ 8) (x y : Nat) : mixn (2 ^ j - 1) x y % 2 ^ j = x % 2 ^ j := by
  unfold mixn
  have e : (y &&& (255 - (2 ^ j - 1))) % 2 ^ j = 0 := by
    rw [Nat.and_mod_two_pow]
    have : (255 - (2 ^ j - 1)) % 2 ^ j = 0 := by
      rcases (by omega : j = 0 ∨ j = 1 ∨ j = 2 ∨ j = 3 ∨ j = 4 ∨ j = 5 ∨ j = 6 ∨ j = 7 ∨ j = 8) with rfl | rfl | rfl | rfl | rfl | rfl | rfl | rfl | rfl <;> decide
    rw [this, Nat.and_zero]
  rw [Nat.or_mod_two_pow, e, Nat.and_two_pow_sub_one_eq_mod, Nat.mod_mod, Nat.or_zero]

def mix (m : Nat) : List UInt8 → List UInt8 → List UInt8
  | x :: r, y :: s => mixb m x y :: mix m r s
  | r, [] => r
  | [], _ => []

theorem mix_nil_left (m : Nat) (b : List UInt8) : mix m [] b = [] := by cases b <;> rfl
theorem mix_nil_right (m : Nat) (a : List UInt8) : mix m a [] = a := by cases a <;> rfl
theorem mix_len (m : Nat) (a b : List UInt8) : (mix m a b).length = a.length := by
  induction a generalizing b with
  | nil => rw [mix_nil_left]
  | cons x r ih => cases b with
    | nil => rw [mix_nil_right]
    | cons y s => show (mixb m x y :: mix m r s).length = _; simp [ih s]
theorem mix_get (m : Nat) (a b : List UInt8) (i : Nat) (x y : UInt8) (ha : a[i]? = some x) (hb : b[i]? = some y) : (mix m a b)[i]? = some (mixb m x y) := by
  induction a generalizing b i with
  | nil => simp at ha
  | cons x0 r ih => cases b with
    | nil => simp at hb
    | cons y0 s => cases i with
      | zero => simp at ha hb; subst ha hb; rfl
      | succ i => exact ih s i (by simpa using ha) (by simpa using hb)
theorem mix_skip (m : Nat) (a b : List UInt8) (i : Nat) (hb : b.length ≤ i) : (mix m a b)[i]? = a[i]? := by
  induction a generalizing b i with
  | nil => rw [mix_nil_left]
  | cons x0 r ih => cases b with
    | nil => rw [mix_nil_right]
    | cons y0 s => cases i with
      | zero => simp at hb
      | succ i => exact ih s i (by simpa using hb)

/-- the first i bytes of A, and behind them those of a -/
def part (A a : List UInt8) (i : Nat) : List UInt8 := A.take i ++ a.drop i
theorem part_len (A a : List UInt8) (i : Nat) (h : A.length = a.length) : (part A a i).length = a.length := by
  unfold part; simp; omega
theorem part_get (A a : List UInt8) (i : Nat) (h : A.length = a.length) (hi : i < a.length) : (part A a i)[i]? = a[i]? := by
  unfold part
  rw [List.getElem?_append_right (by simp; omega)]
  simp
  rw [show i + (i - min i A.length) = i by omega]
theorem part_set (A a : List UInt8) (i : Nat) (z : UInt8) (h : A.length = a.length) (hi : A[i]? = some z) : (part A a i).set i z = part A a (i + 1) := by
  have hl : i < A.length := (List.getElem?_eq_some_iff.1 hi).1
  unfold part
  rw [List.set_append_right _ _ (by simp; omega), List.take_add_one, hi, show i - (A.take i).length = 0 by simp; omega]
  rw [List.drop_eq_getElem_cons (by omega : i < a.length), List.set_cons_zero]
  simp
theorem part_skip (A a : List UInt8) (i : Nat) (h : A.length = a.length) (hi : A[i]? = a[i]?) (hl : i < a.length) : part A a i = part A a (i + 1) := by
  unfold part
  rw [List.take_add_one, hi, List.drop_eq_getElem_cons hl, List.getElem?_eq_getElem hl]
  simp
theorem part_zero (A a : List UInt8) : part A a 0 = a := by simp [part]
theorem part_all (A a : List UInt8) (i : Nat) (h : A.length = a.length) (hi : a.length ≤ i) : part A a i = A := by
  unfold part
  rw [List.drop_eq_nil_of_le hi, List.append_nil, List.take_of_length_le (by omega)]

theorem Fnv.step_low {k j : Nat} (hj : j ≤ 8) (h g : Nat) (x y : UInt8) (e : h % 2 ^ j = g % 2 ^ j) (e2 : x.toNat % 2 ^ j = y.toNat % 2 ^ j) : Fnv.step k h x % 2 ^ j = Fnv.step k g y % 2 ^ j := by
  have hd : 2 ^ j ∣ Fnv.md k := by
    unfold Fnv.md
    exact Nat.pow_dvd_pow 2 (by have := Fnv.bits_ge k; omega)
  have hm : ∀ a b : Nat, a % 2 ^ j = b % 2 ^ j → a * Fnv.prime k % Fnv.md k % 2 ^ j = b * Fnv.prime k % Fnv.md k % 2 ^ j := by
    intro a b hab
    rw [Nat.mod_mod_of_dvd _ hd, Nat.mod_mod_of_dvd _ hd, Nat.mul_mod, hab, ← Nat.mul_mod]
  unfold Fnv.step
  split
  · exact hm _ _ (by rw [Nat.xor_mod_two_pow, Nat.xor_mod_two_pow, e, e2])
  · rw [Nat.xor_mod_two_pow, Nat.xor_mod_two_pow, hm _ _ e, e2]

theorem Fnv.run_low {k j : Nat} (hj : j ≤ 8) (a b : List UInt8) (h g : Nat) (e : h % 2 ^ j = g % 2 ^ j) : Fnv.run k h a % 2 ^ j = Fnv.run k g (mix (2 ^ j - 1) a b) % 2 ^ j := by
  have hp : (2 : Nat) ^ j ≤ 2 ^ 8 := Nat.pow_le_pow_right (by omega) hj
  induction a generalizing b h g with
  | nil => rw [mix_nil_left]; exact e
  | cons x r ih => cases b with
    | nil =>
      have := ih [] (Fnv.step k h x) (Fnv.step k g x) (Fnv.step_low hj _ _ _ _ e rfl)
      rw [mix_nil_right] at this ⊢
      exact this
    | cons y s => exact ih s _ _ (Fnv.step_low hj _ _ _ _ e (by rw [mixb_toNat _ _ _ (by omega), mixn_mod j hj]))

theorem Fnv.sum_low {k j : Nat} (hj : j ≤ 8) (a b : List UInt8) : Fnv.sum k a % 2 ^ j = Fnv.sum k (mix (2 ^ j - 1) a b) % 2 ^ j := Fnv.run_low hj a b _ _ rfl

theorem low_zero {j S T : Nat} (hj : j ≤ 8) (e : S % 2 ^ j = T % 2 ^ j) : ((S % 18446744073709551616) ^^^ (T % 18446744073709551616)) &&& (2 ^ j - 1) = 0 := by
  have hd : 2 ^ j ∣ 18446744073709551616 := by
    rw [show (18446744073709551616 : Nat) = 2 ^ 64 by decide]
    exact Nat.pow_dvd_pow 2 (by omega)
  rw [Nat.and_two_pow_sub_one_eq_mod, Nat.xor_mod_two_pow, Nat.mod_mod_of_dvd _ hd, Nat.mod_mod_of_dvd _ hd, e, Nat.xor_self]

theorem Own.set {w : World} {base g c : Nat} {bs : List UInt8} (h : Own w base g c bs) (i : Nat) (x : UInt8) : Own (w.setCell ⟨g, i, none⟩ (.int .u8 (x.toNat : Int))) base g c (bs.set i x) := by
  have := h.stored i (bv x)
  unfold Own
  rw [List.length_set, List.map_set]
  exact this.1

set_option maxRecDepth 100000 in
set_option maxHeartbeats 4000000 in
theorem fnvLowBits_walk (a0 : Int) (A1 : Option Addr) (c1 : Nat) (bs1 : List UInt8) (A2 : Option Addr) (c2 : Nat) (bs2 : List UInt8) (a3 : Int) (w : World) (h0 : -9223372036854775808 ≤ a0 ∧ a0 ≤ 9223372036854775807)
    (rd1 : Rd w w.heap.size A1 bs1) (lc1 : bs1.length ≤ c1) (lm1 : c1 ≤ 140737488351232) (rd2 : Rd w w.heap.size A2 bs2) (lc2 : bs2.length ≤ c2) (lm2 : c2 ≤ 140737488351232) (h3 : -9223372036854775808 ≤ a3 ∧ a3 ≤ 9223372036854775807) :
    Calls Try.prog 12 #[.int .i64 a0, .slice A1 bs1.length c1, .slice A2 bs2.length c2, .int .i64 a3] w fun e w' => e = .returned (.bool true) ∧ Below w.heap.size w w' := by
  obtain ⟨n1, hn1⟩ : ∃ m, m = bs1.length := ⟨_, rfl⟩
  obtain ⟨n2, hn2⟩ : ∃ m, m = bs2.length := ⟨_, rfl⟩
  rw [← hn1] at lc1
  rw [← hn2] at lc2
  rw [← hn1, ← hn2]
  have H1 := Lib.hid hn1
  have H2 := Lib.hid hn2
  clear hn1 hn2
  by_cases hr : 0 ≤ a0 ∧ a0 ≤ 5
  case neg =>
    have hd : decide (0 ≤ a0 ∧ a0 ≤ 5) = false := decide_eq_false hr
    go_enter Try.func12, Try.ntmps12
    go_wp2_with fail
    refine (isFnv_any _ w).mono ?_
    rintro e w1 ⟨rfl, rfl⟩
    rw [hd]
    go_wp2
    go_ret
    exact ⟨rfl, Below.refl _ _⟩
  case pos =>
  have hd : decide (0 ≤ a0 ∧ a0 ≤ 5) = true := decide_eq_true hr
  by_cases hr0 : a3 < 0
  · have t0 : decide (a3 < 0) = true := decide_eq_true hr0
    go_enter Try.func12, Try.ntmps12
    go_wp2_with fail
    refine (isFnv_any _ w).mono ?_
    rintro e w1 ⟨rfl, rfl⟩
    rw [hd]
    go_wp2
    go_ret
    exact ⟨rfl, Below.refl _ _⟩
  by_cases hr2 : a3 > 8
  · have t0 : decide (a3 < 0) = false := decide_eq_false hr0
    have t2 : decide (a3 > 8) = true := decide_eq_true hr2
    go_enter Try.func12, Try.ntmps12
    go_wp2_with fail
    refine (isFnv_any _ w).mono ?_
    rintro e w1 ⟨rfl, rfl⟩
    rw [hd]
    go_wp2
    go_ret
    exact ⟨rfl, Below.refl _ _⟩
  obtain ⟨k, rfl, hk⟩ : ∃ k : Nat, a0 = (k : Int) ∧ k < 6 := ⟨a0.toNat, by omega, by omega⟩
  obtain ⟨j, rfl, hj⟩ : ∃ n : Nat, a3 = (n : Int) ∧ n ≤ 8 := ⟨a3.toNat, by omega, by omega⟩
  have t0 : decide ((j : Int) < 0) = false := decide_eq_false hr0
  have t2 : decide ((j : Int) > 8) = false := decide_eq_false hr2
  have hp : (2 : Nat) ^ j ≤ 2 ^ 8 := Nat.pow_le_pow_right (by omega) hj
  have hpp : 0 < (2 : Nat) ^ j := Nat.two_pow_pos j
  have hsum := Fnv.sum_low (k := k) hj bs1 bs2
  have hz := low_zero hj hsum
  have hlm := mix_len (2 ^ j - 1) bs1 bs2
  have hmk : ∀ x y : UInt8, mixn (2 ^ j - 1) x.toNat y.toNat = (mixb (2 ^ j - 1) x y).toNat := fun x y => (mixb_toNat _ x y (by omega)).symm
  have hg := mix_get (2 ^ j - 1) bs1 bs2
  have hs := mix_skip (2 ^ j - 1) bs1 bs2
  obtain ⟨m, em⟩ : ∃ m, m = 2 ^ j - 1 := ⟨_, rfl⟩
  have lm : m < 256 := by omega
  rw [← em] at hz hlm hg hs
  have hmk' : ∀ x y : UInt8, mixn m x.toNat y.toNat = (mixb m x y).toNat := by rw [em]; exact hmk
  obtain ⟨M, eM⟩ : ∃ M, M = mix m bs1 bs2 := ⟨_, rfl⟩
  rw [← eM] at hz hlm hg hs
  obtain ⟨u, v, hw⟩ := wide_cells (Fnv.sum k bs1)
  clear hmk hsum h0 h3 hr hr0 hr2
  have HG := Lib.hid hg
  have HS := Lib.hid hs
  have HM := Lib.hid hmk'
  have HL := Lib.hid hlm
  have HZ := Lib.hid hz
  have HE := Lib.hid em
  clear hg hs hmk' hlm hz em eM hw hp hpp
  go_enter Try.func12, Try.ntmps12
  go_wp2_with fail
  refine (isFnv_any _ w).mono ?_
  rintro e w0 ⟨rfl, rfl⟩
  rw [hd]
  go_upto_region 3 with (fail)
  go_cut [9] (fun x wc => x = .int .u8 (m : Int) ∧ wc = w0)
  case first =>
    have hm' := HE.out
    rcases (by omega : j = 0 ∨ j = 1 ∨ j = 2 ∨ j = 3 ∨ j = 4 ∨ j = 5 ∨ j = 6 ∨ j = 7 ∨ j = 8) with rfl | rfl | rfl | rfl | rfl | rfl | rfl | rfl | rfl <;> (simp at hm'; subst hm'; go_wp2; go_meet; exact ⟨rfl, rfl⟩)
  case rest =>
    obtain ⟨rfl, rfl⟩ := hcut
    go_wp2_with (at_builtin; refine wpList_append_bytes rfl _ _ 22 rfl Try.underlying22 wc.heap.size wc.heap.size 0 [] bs1 0 n1 rfl rfl (Own.empty wc _ (Nat.le_refl _)) wc.heap.size _ c1 rfl H1.out (rd1.alloc (Nat.le_refl _) _) (by have := H1.out; simp only [List.length_nil]; omega) (by simp) ?_; intro g c w1 h1 h2; refine Hid.out ?_)
    refine Lib.hid ?_
    simp only [List.nil_append] at h1
    have bw1 : Below wc.heap.size wc w1 := ((Below.refl _ _).alloc (Nat.le_refl _) _).grown h2 (by simp) (by simp)
    have HO1 := Lib.hid h1
    have HB1 := Lib.hid bw1
    have hgl := h1.lt'.1
    clear h1 h2 bw1
    obtain ⟨W, eW⟩ : ∃ W, W = wc := ⟨_, rfl⟩
    have part0 : Hid (Own w1 wc.heap.size g c (part M bs1 0)) := by show Own _ _ _ _ _; rw [part_zero]; exact HO1.out
    go_wp2_with fail
    go_loopg [36] n1 (fun gk ix wr => ∃ (i : Nat), i + gk = n1 ∧ ix = .int .i64 (i : Int) ∧ Hid (Own wr wc.heap.size g c (part M bs1 i)) ∧ Hid (Below wc.heap.size wc wr))
    case atStart => exact ⟨0, by omega, rfl, part0, HB1⟩
    case round =>
      obtain ⟨i, hi, rfl, hown, hbel⟩ := hrel
      have HI := Lib.hid hi
      have hin : i ≤ n1 := by omega
      clear hi
      by_cases hlt : i < n1
      · by_cases hlt2 : i < n2
        · obtain ⟨b, off, x, rfl, hb, hx, hcx⟩ := (rd1.below hbel.out).at (k := i) (by have := H1.out; omega)
          obtain ⟨b', off', y, rfl, hb', hy, hcy⟩ := (rd2.below hbel.out).at (k := i) (by have := H2.out; omega)
          have hM := HG.out i x y hx hy
          have hst := part_set M bs1 i _ HL.out hM
          have hpg := part_get M bs1 i HL.out (by have := H1.out; omega)
          have hplen := part_len M bs1 i HL.out
          rw [hx] at hpg
          have hbL : i < bs1.length := by have := H1.out; omega
          have hci : wr.cell? ⟨g, i, none⟩ = some (.int .u8 (x.toNat : Int)) := by
            rw [World.ownsRow.cellAt hown.out i (by simp; omega)]; simp [hpg, bv]
          have hfz : wr.frozen? ⟨g, i, none⟩ = false := World.ownsRow.frozenAt hown.out i
          have hxl := x.toNat_lt
          have hyl := y.toNat_lt
          have o1 := bits_and_u8_nat x.toNat m hxl lm
          have o2 := bits_andNot_u8_nat y.toNat m hyl lm
          have lp : x.toNat &&& m < 2 ^ 8 := Nat.and_lt_two_pow _ (by omega)
          have lq : y.toNat &&& (255 - m) < 2 ^ 8 := Nat.and_lt_two_pow _ (by omega)
          have o3 := bits_or_u8_nat _ _ lp lq
          have hz := HM.out x y
          unfold mixn at hz
          rw [hz] at o3
          obtain ⟨z, ez⟩ : ∃ z, z = mixb m x y := ⟨_, rfl⟩
          rw [← ez] at o3 hst
          obtain ⟨p, ep⟩ : ∃ p, p = x.toNat &&& m := ⟨_, rfl⟩
          obtain ⟨q, eq⟩ : ∃ q, q = y.toNat &&& (255 - m) := ⟨_, rfl⟩
          rw [← ep] at o1 o3
          rw [← eq] at o2 o3
          have HST := Lib.hid hst
          have hnb : b ≠ g := by omega
          have hnb' : b' ≠ g := by omega
          have i0 : (0 : Int) ≤ (i : Int) := by omega
          have i1 : (i : Int) < (n1 : Int) := by omega
          have i2 : (i : Int) < (n2 : Int) := by omega
          have i3 : (i : Int) < (bs1.length : Int) := by omega
          clear ez ep eq hz hst hpg hplen hM hx hy lp lq
          go_wp2_with fail
          go_region
          all_goals
            go_wp2_with fail
            go_roundg (gk - 1)
          all_goals first
            | (case measure => have := HI.out; omega)
            | (case rel => exact ⟨i + 1, by have := HI.out; omega, by go_num, by rw [← HST.out]; exact hown.out.set i z, (hbel.out.setCell (p := ⟨g, i, none⟩) hgl _).drew⟩)
        · have hsk := part_skip M bs1 i HL.out (HS.out i (by have := H2.out; omega)) (by have := H1.out; omega)
          have HSK := Lib.hid hsk
          have hbL : i < bs1.length := by have := H1.out; omega
          clear hsk
          go_wp2_with fail
          go_roundg (gk - 1)
          case measure => have := HI.out; omega
          case rel => exact ⟨i + 1, by have := HI.out; omega, by go_num, by rw [← HSK.out]; exact hown, hbel⟩
      · have hbL : ¬ i < bs1.length := by have := H1.out; omega
        have hall := part_all M bs1 i HL.out (by omega)
        have ho := hown.out
        rw [hall] at ho
        have HO := Lib.hid ho
        have z0 := hbel.out.size
        obtain ⟨u1, v1, e1⟩ := wide_cells (Fnv.sum k bs1)
        obtain ⟨S1, eS1⟩ : ∃ S, S = Fnv.sum k bs1 % 18446744073709551616 := ⟨_, rfl⟩
        obtain ⟨S2, eS2⟩ : ∃ S, S = Fnv.sum k M % 18446744073709551616 := ⟨_, rfl⟩
        obtain ⟨h1, eh1⟩ : ∃ S : Int, S = ((Fnv.sum k bs1 / 18446744073709551616 : Nat) : Int) := ⟨_, rfl⟩
        obtain ⟨h2, eh2⟩ : ∃ S : Int, S = ((Fnv.sum k M / 18446744073709551616 : Nat) : Int) := ⟨_, rfl⟩
        have E1 : Hid (wv (Fnv.sum k bs1) = .agg #[.int .u64 h1, .int .u64 (S1 : Int)]) := by show _ = _; rw [eh1, eS1, wv]
        have E2 : Hid (wv (Fnv.sum k M) = .agg #[.int .u64 h2, .int .u64 (S2 : Int)]) := by show _ = _; rw [eh2, eS2, wv]
        have l1 : S1 < 18446744073709551616 := by omega
        have l2 : S2 < 18446744073709551616 := by omega
        have lx : S1 ^^^ S2 < 2 ^ 64 := Nat.xor_lt_two_pow l1 l2
        have o1 := bits_xor_u64_nat S1 S2 l1 l2
        have o2 := bits_and_u64_nat (S1 ^^^ S2) m lx (by omega)
        have hz := HZ.out
        rw [← eS1, ← eS2] at hz
        rw [hz] at o2
        obtain ⟨X, eX⟩ : ∃ X, X = S1 ^^^ S2 := ⟨_, rfl⟩
        rw [← eX] at o1 o2
        have o3 : IntKind.u64.wrap (m : Int) = (m : Int) := by rw [IntKind.wrap_u64]; omega
        have o2' : Go.bits .and .u64 (X : Int) (m : Int) = 0 := o2
        have hMl := HL.out
        clear hall ho e1 eS1 eS2 eh1 eh2 eX hz o2 lx
        go_wp2_with fail
        refine (fnv_any k hk A1 n1 c1 bs1 wr H1.out ((rd1.below hbel.out).mono z0) (by have := H1.out; omega)).mono ?_
        rintro e w2 ⟨rfl, hb2⟩
        rw [E1.out]
        have z2 := hb2.size
        have bw2 : Below wc.heap.size wc w2 := hbel.out.trans (hb2.mono z0)
        have rM : Rd w2 wr.heap.size (some ⟨g, 0, none⟩) M := HO.out.rd.below hb2
        clear hb2
        go_wp2_with fail
        obtain ⟨V, hV⟩ : ∃ V, w2.alloc (.cells #[.int .u64 h1, .int .u64 (S1 : Int)] 36) = V := ⟨_, rfl⟩
        have sv : V.heap.size = w2.heap.size + 1 := by subst hV; simp
        have ev : V.heap[w2.heap.size]? = some (.cells #[.int .u64 h1, .int .u64 (S1 : Int)] 36 (0, 0)) := by subst hV; exact heap_alloc_new w2 _
        have bv : Below wc.heap.size wc V := by subst hV; exact bw2.alloc (by omega) _
        have rV : Rd V V.heap.size (some ⟨g, 0, none⟩) M := by rw [sv]; subst hV; exact ((rM.mono z2).alloc (Nat.le_refl _) _).mono (by omega)
        rw [hV]
        clear hV rM
        refine (fnv_any k hk _ _ _ M V hMl.symm rV (by have := H1.out; omega)).mono ?_
        rintro e w3 ⟨rfl, hb3⟩
        rw [E2.out]
        have z3 := hb3.size
        have bw3 : Below wc.heap.size wc w3 := bv.trans (hb3.mono (by omega))
        have e3 : w3.heap[w2.heap.size]? = some (.cells #[.int .u64 h1, .int .u64 (S1 : Int)] 36 (0, 0)) := by rw [hb3.block _ (by omega)]; exact ev
        have c31 : w3.cell? ⟨w2.heap.size, 1, none⟩ = some (.int .u64 (S1 : Int)) := by rw [cell_of_row w3 _ 1 _ _ _ e3]; rfl
        have l3 : w2.heap.size < w3.heap.size := by omega
        have z4 := bw3.size
        clear hb3 ev e3 rV hMl
        go_wp2_with fail
        go_ret
        exact ⟨rfl, bw3.alloc z4 _⟩

end Go.Proofs.Ytaplmdbcjckbkaa

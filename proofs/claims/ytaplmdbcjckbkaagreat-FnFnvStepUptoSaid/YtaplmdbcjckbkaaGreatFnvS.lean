/-
  laws.isFnv and the arithmetic of spec on numbers of 128 bits: cut, Times, Prime, Offset, Power. No condition.
-/
import Derived.Test.YtaplmdbcjckbkaaGreatFnvF
import Derived.Test.YtaplmdbcjckbkaaGreatMul
namespace Go.Proofs.YtaplmdbcjckbkaaGreat
open Go.RowKit
set_option linter.unusedVariables false

theorem isFnv_any (a : Int) (w : World) :
    Calls Tryz.prog 6 #[.int .i64 a] w fun e w' => e = .returned (.bool (decide (0 ≤ a ∧ a ≤ 5))) ∧ w' = w := by
  by_cases h0 : 0 ≤ a
  · by_cases h5 : a ≤ 5
    · have t : decide (0 ≤ a ∧ a ≤ 5) = true := decide_eq_true ⟨h0, h5⟩
      have t1 : decide (a ≤ 5) = true := decide_eq_true h5
      have t2 : decide (0 ≤ a) = true := decide_eq_true h0
      rw [t]
      go_enter Tryz.func6, Tryz.ntmps6
      go_wp2
      go_ret
      exact ⟨rfl, rfl⟩
    · have t : decide (0 ≤ a ∧ a ≤ 5) = false := decide_eq_false (fun h => h5 h.2)
      have t1 : decide (a ≤ 5) = false := decide_eq_false h5
      have t2 : decide (0 ≤ a) = true := decide_eq_true h0
      rw [t]
      go_enter Tryz.func6, Tryz.ntmps6
      go_wp2
      go_ret
      exact ⟨rfl, rfl⟩
  · have t : decide (0 ≤ a ∧ a ≤ 5) = false := decide_eq_false (fun h => h0 h.1)
    have t2 : decide (0 ≤ a) = false := decide_eq_false h0
    rw [t]
    go_enter Tryz.func6, Tryz.ntmps6
    go_wp2
    go_ret
    exact ⟨rfl, rfl⟩

/-- a value of spec.Wide out of its two words -/
abbrev wp (u v : Nat) : Value := .agg #[.int .u64 (u : Int), .int .u64 (v : Int)]
theorem wv_wp (S : Nat) : wv S = wp (S / 18446744073709551616) (S % 18446744073709551616) := rfl
theorem wv_of (u v : Nat) (hv : v < 18446744073709551616) : wv (u * 18446744073709551616 + v) = wp u v := by
  have e1 : (u * 18446744073709551616 + v) / 18446744073709551616 = u := by omega
  have e2 : (u * 18446744073709551616 + v) % 18446744073709551616 = v := by omega
  rw [wv_wp, e1, e2]

/-- the words of a number, cut to a kind -/
def cuth (k u : Nat) : Nat := if k < 4 then 0 else u
def cutl (k v : Nat) : Nat := if k < 2 then v % 4294967296 else v
theorem cut_eq {k : Nat} (hk : k < 6) (u v : Nat) (hu : u < 18446744073709551616) (hv : v < 18446744073709551616) : wp (cuth k u) (cutl k v) = wv ((u * 18446744073709551616 + v) % Fnv.md k) := by
  have e : cuth k u * 18446744073709551616 + cutl k v = (u * 18446744073709551616 + v) % Fnv.md k ∧ cutl k v < 18446744073709551616 := by
    rcases kinds6 hk with rfl | rfl | rfl | rfl | rfl | rfl
    · rw [Fnv.md0]; simp only [cuth, cutl]; simp; omega
    · rw [Fnv.md1]; simp only [cuth, cutl]; simp; omega
    · rw [Fnv.md2]; simp only [cuth, cutl]; simp; omega
    · rw [Fnv.md3]; simp only [cuth, cutl]; simp; omega
    · rw [Fnv.md4]; simp only [cuth, cutl]; simp; omega
    · rw [Fnv.md5]; simp only [cuth, cutl]; simp; omega
  rw [← e.1, wv_of _ _ e.2]

set_option maxRecDepth 100000 in
set_option maxHeartbeats 1000000 in
theorem cut_any (k : Nat) (hk : k < 6) (u v : Nat) (hu : u < 18446744073709551616) (hv : v < 18446744073709551616) (w : World) :
    Calls Tryz.prog 23 #[.int .i64 (k : Int), wp u v] w fun e w' => e = .returned (wp (cuth k u) (cutl k v)) ∧ Below w.heap.size w w' := by
  have hm := m_mask v hv
  obtain ⟨W, hW⟩ : ∃ W, (w.alloc (.cells #[.int .u64 (u : Int), .int .u64 (v : Int)] 26)).alloc (.cells #[.int .u64 0, .int .u64 0] 26) = W := ⟨_, rfl⟩
  have bw : Below w.heap.size w W := by subst hW; exact ((Below.refl _ _).alloc (Nat.le_refl _) _).alloc (by simp) _
  have e1 : W.heap[w.heap.size]? = some (.cells #[.int .u64 (u : Int), .int .u64 (v : Int)] 26 (0, 0)) := by subst hW; exact heap_alloc2_old w _ _
  have e2 : W.heap[w.heap.size + 1]? = some (.cells #[.int .u64 0, .int .u64 0] 26 (0, 0)) := by subst hW; exact heap_alloc2_new w _ _
  have c0 : W.cell? ⟨w.heap.size, 0, none⟩ = some (.int .u64 (u : Int)) := by rw [cell_of_row W _ 0 _ _ _ e1]; rfl
  have c1 : W.cell? ⟨w.heap.size, 1, none⟩ = some (.int .u64 (v : Int)) := by rw [cell_of_row W _ 1 _ _ _ e1]; rfl
  have d0 : W.cell? ⟨w.heap.size + 1, 0, none⟩ = some (.int .u64 0) := by rw [cell_of_row W _ 0 _ _ _ e2]; rfl
  have d1 : W.cell? ⟨w.heap.size + 1, 1, none⟩ = some (.int .u64 0) := by rw [cell_of_row W _ 1 _ _ _ e2]; rfl
  have f1 : ∀ j, W.frozen? ⟨w.heap.size + 1, j, none⟩ = false := fun j => frozen_of_row W _ j _ _ e2
  clear e1 e2
  have fin : ∀ (p q : Value), Below w.heap.size w ((W.setCell ⟨w.heap.size + 1, 0, none⟩ p).setCell ⟨w.heap.size + 1, 1, none⟩ q) := fun p q => (bw.setCell (p := ⟨w.heap.size + 1, 0, none⟩) (by simp) _).setCell (p := ⟨w.heap.size + 1, 1, none⟩) (by simp) _
  rcases kinds6 hk with rfl | rfl | rfl | rfl | rfl | rfl
  · go_enter Tryz.func23, Tryz.ntmps23
    go_wp2
    refine bodyPost_ret (v := wp 0 (v % 4294967296)) (by simp [results, Tryz.results23, go_sem, d0, d1]) rfl ⟨rfl, fin _ _⟩
  · go_enter Tryz.func23, Tryz.ntmps23
    go_wp2
    refine bodyPost_ret (v := wp 0 (v % 4294967296)) (by simp [results, Tryz.results23, go_sem, d0, d1]) rfl ⟨rfl, fin _ _⟩
  · go_enter Tryz.func23, Tryz.ntmps23
    go_wp2
    refine bodyPost_ret (v := wp 0 v) (by simp [results, Tryz.results23, go_sem, d0, d1]) rfl ⟨rfl, fin _ _⟩
  · go_enter Tryz.func23, Tryz.ntmps23
    go_wp2
    refine bodyPost_ret (v := wp 0 v) (by simp [results, Tryz.results23, go_sem, d0, d1]) rfl ⟨rfl, fin _ _⟩
  · go_enter Tryz.func23, Tryz.ntmps23
    go_wp2
    refine bodyPost_ret (v := wp u v) (by simp [results, Tryz.results23, go_sem, d0, d1]) rfl ⟨rfl, fin _ _⟩
  · go_enter Tryz.func23, Tryz.ntmps23
    go_wp2
    refine bodyPost_ret (v := wp u v) (by simp [results, Tryz.results23, go_sem, d0, d1]) rfl ⟨rfl, fin _ _⟩

set_option maxRecDepth 100000 in
set_option maxHeartbeats 1000000 in
theorem prime_any (k : Nat) (hk : k < 6) (w : World) :
    Calls Tryz.prog 19 #[.int .i64 (k : Int)] w fun e w' => e = .returned (wv (Fnv.prime k)) ∧ Below w.heap.size w w' := by
  obtain ⟨W, hW⟩ : ∃ W, w.alloc (.cells #[.int .u64 0, .int .u64 0] 26) = W := ⟨_, rfl⟩
  have bw : Below w.heap.size w W := by subst hW; exact (Below.refl _ _).alloc (Nat.le_refl _) _
  have e2 : W.heap[w.heap.size]? = some (.cells #[.int .u64 0, .int .u64 0] 26 (0, 0)) := by subst hW; exact heap_alloc_new w _
  have d0 : W.cell? ⟨w.heap.size, 0, none⟩ = some (.int .u64 0) := by rw [cell_of_row W _ 0 _ _ _ e2]; rfl
  have d1 : W.cell? ⟨w.heap.size, 1, none⟩ = some (.int .u64 0) := by rw [cell_of_row W _ 1 _ _ _ e2]; rfl
  have f1 : ∀ j, W.frozen? ⟨w.heap.size, j, none⟩ = false := fun j => frozen_of_row W _ j _ _ e2
  clear e2
  have fin : ∀ (p q : Value), Below w.heap.size w ((W.setCell ⟨w.heap.size, 0, none⟩ p).setCell ⟨w.heap.size, 1, none⟩ q) := fun p q => (bw.setCell (p := ⟨w.heap.size, 0, none⟩) (by simp) _).setCell (p := ⟨w.heap.size, 1, none⟩) (by simp) _
  rcases kinds6 hk with rfl | rfl | rfl | rfl | rfl | rfl
  · have e : wv (Fnv.prime 0) = wp 0 16777619 := by simp [wv, wp, Fnv.prime]
    go_enter Tryz.func19, Tryz.ntmps19
    go_wp2
    refine bodyPost_ret (v := wp 0 16777619) (by simp [results, Tryz.results19, go_sem, d0, d1]) rfl ⟨by rw [e], fin _ _⟩
  · have e : wv (Fnv.prime 1) = wp 0 16777619 := by simp [wv, wp, Fnv.prime]
    go_enter Tryz.func19, Tryz.ntmps19
    go_wp2
    refine bodyPost_ret (v := wp 0 16777619) (by simp [results, Tryz.results19, go_sem, d0, d1]) rfl ⟨by rw [e], fin _ _⟩
  · have e : wv (Fnv.prime 2) = wp 0 1099511628211 := by simp [wv, wp, Fnv.prime]
    go_enter Tryz.func19, Tryz.ntmps19
    go_wp2
    refine bodyPost_ret (v := wp 0 1099511628211) (by simp [results, Tryz.results19, go_sem, d0, d1]) rfl ⟨by rw [e], fin _ _⟩
  · have e : wv (Fnv.prime 3) = wp 0 1099511628211 := by simp [wv, wp, Fnv.prime]
    go_enter Tryz.func19, Tryz.ntmps19
    go_wp2
    refine bodyPost_ret (v := wp 0 1099511628211) (by simp [results, Tryz.results19, go_sem, d0, d1]) rfl ⟨by rw [e], fin _ _⟩
  · have e : wv (Fnv.prime 4) = wp 16777216 315 := by simp [wv, wp, Fnv.prime]
    go_enter Tryz.func19, Tryz.ntmps19
    go_wp2
    refine bodyPost_ret (v := wp 16777216 315) (by simp [results, Tryz.results19, go_sem, d0, d1]) rfl ⟨by rw [e], fin _ _⟩
  · have e : wv (Fnv.prime 5) = wp 16777216 315 := by simp [wv, wp, Fnv.prime]
    go_enter Tryz.func19, Tryz.ntmps19
    go_wp2
    refine bodyPost_ret (v := wp 16777216 315) (by simp [results, Tryz.results19, go_sem, d0, d1]) rfl ⟨by rw [e], fin _ _⟩

set_option maxRecDepth 100000 in
set_option maxHeartbeats 1000000 in
theorem offset_any (k : Nat) (hk : k < 6) (w : World) :
    Calls Tryz.prog 10 #[.int .i64 (k : Int)] w fun e w' => e = .returned (wv (Fnv.offset k)) ∧ Below w.heap.size w w' := by
  obtain ⟨W, hW⟩ : ∃ W, w.alloc (.cells #[.int .u64 0, .int .u64 0] 26) = W := ⟨_, rfl⟩
  have bw : Below w.heap.size w W := by subst hW; exact (Below.refl _ _).alloc (Nat.le_refl _) _
  have e2 : W.heap[w.heap.size]? = some (.cells #[.int .u64 0, .int .u64 0] 26 (0, 0)) := by subst hW; exact heap_alloc_new w _
  have d0 : W.cell? ⟨w.heap.size, 0, none⟩ = some (.int .u64 0) := by rw [cell_of_row W _ 0 _ _ _ e2]; rfl
  have d1 : W.cell? ⟨w.heap.size, 1, none⟩ = some (.int .u64 0) := by rw [cell_of_row W _ 1 _ _ _ e2]; rfl
  have f1 : ∀ j, W.frozen? ⟨w.heap.size, j, none⟩ = false := fun j => frozen_of_row W _ j _ _ e2
  clear e2
  have fin : ∀ (p q : Value), Below w.heap.size w ((W.setCell ⟨w.heap.size, 0, none⟩ p).setCell ⟨w.heap.size, 1, none⟩ q) := fun p q => (bw.setCell (p := ⟨w.heap.size, 0, none⟩) (by simp) _).setCell (p := ⟨w.heap.size, 1, none⟩) (by simp) _
  rcases kinds6 hk with rfl | rfl | rfl | rfl | rfl | rfl
  · have e : wv (Fnv.offset 0) = wp 0 2166136261 := by simp [wv, wp, Fnv.offset]
    go_enter Tryz.func10, Tryz.ntmps10
    go_wp2
    refine bodyPost_ret (v := wp 0 2166136261) (by simp [results, Tryz.results10, go_sem, d0, d1]) rfl ⟨by rw [e], fin _ _⟩
  · have e : wv (Fnv.offset 1) = wp 0 2166136261 := by simp [wv, wp, Fnv.offset]
    go_enter Tryz.func10, Tryz.ntmps10
    go_wp2
    refine bodyPost_ret (v := wp 0 2166136261) (by simp [results, Tryz.results10, go_sem, d0, d1]) rfl ⟨by rw [e], fin _ _⟩
  · have e : wv (Fnv.offset 2) = wp 0 14695981039346656037 := by simp [wv, wp, Fnv.offset]
    go_enter Tryz.func10, Tryz.ntmps10
    go_wp2
    refine bodyPost_ret (v := wp 0 14695981039346656037) (by simp [results, Tryz.results10, go_sem, d0, d1]) rfl ⟨by rw [e], fin _ _⟩
  · have e : wv (Fnv.offset 3) = wp 0 14695981039346656037 := by simp [wv, wp, Fnv.offset]
    go_enter Tryz.func10, Tryz.ntmps10
    go_wp2
    refine bodyPost_ret (v := wp 0 14695981039346656037) (by simp [results, Tryz.results10, go_sem, d0, d1]) rfl ⟨by rw [e], fin _ _⟩
  · have e : wv (Fnv.offset 4) = wp 7809847782465536322 7113472399480571277 := by simp [wv, wp, Fnv.offset]
    go_enter Tryz.func10, Tryz.ntmps10
    go_wp2
    refine bodyPost_ret (v := wp 7809847782465536322 7113472399480571277) (by simp [results, Tryz.results10, go_sem, d0, d1]) rfl ⟨by rw [e], fin _ _⟩
  · have e : wv (Fnv.offset 5) = wp 7809847782465536322 7113472399480571277 := by simp [wv, wp, Fnv.offset]
    go_enter Tryz.func10, Tryz.ntmps10
    go_wp2
    refine bodyPost_ret (v := wp 7809847782465536322 7113472399480571277) (by simp [results, Tryz.results10, go_sem, d0, d1]) rfl ⟨by rw [e], fin _ _⟩

theorem md_dvd {k : Nat} (hk : k < 6) : Fnv.md k ∣ 340282366920938463463374607431768211456 := by
  have : Fnv.md k ∣ 2 ^ 128 := by
    unfold Fnv.md
    exact Nat.pow_dvd_pow 2 (by rcases kinds6 hk with rfl | rfl | rfl | rfl | rfl | rfl <;> simp [Fnv.bits])
  rwa [show (2 : Nat) ^ 128 = 340282366920938463463374607431768211456 by decide] at this

theorem wide_times (ah al bh bl p q r s : Nat) (hp : p = ah * bl) (hq : q = al * bh) (hr : r = al * bl) (hs : s = ah * bh) :
    ((r / 18446744073709551616 + p) % 18446744073709551616 + q) % 18446744073709551616 * 18446744073709551616 + r % 18446744073709551616 = ((ah * 18446744073709551616 + al) * (bh * 18446744073709551616 + bl)) % 340282366920938463463374607431768211456 := by
  have e : (ah * 18446744073709551616 + al) * (bh * 18446744073709551616 + bl) = s * 340282366920938463463374607431768211456 + (p + q) * 18446744073709551616 + r := by
    subst hp hq hr hs
    simp only [Nat.add_mul, Nat.mul_add]
    have e1 : ah * 18446744073709551616 * (bh * 18446744073709551616) = ah * bh * 340282366920938463463374607431768211456 := by
      rw [Nat.mul_assoc, Nat.mul_left_comm 18446744073709551616, ← Nat.mul_assoc]
    have e2 : ah * 18446744073709551616 * bl = ah * bl * 18446744073709551616 := by rw [Nat.mul_right_comm]
    have e3 : al * (bh * 18446744073709551616) = al * bh * 18446744073709551616 := by rw [Nat.mul_assoc]
    rw [e1, e2, e3]
    generalize ah * bh = x1
    generalize ah * bl = x2
    generalize al * bh = x3
    generalize al * bl = x4
    omega
  rw [e]
  omega

set_option maxRecDepth 100000 in
set_option maxHeartbeats 1000000 in
theorem times_words (k : Nat) (hk : k < 6) (ah al bh bl : Nat) (h1 : ah < 18446744073709551616) (h2 : al < 18446744073709551616) (h3 : bh < 18446744073709551616) (h4 : bl < 18446744073709551616) (w : World) :
    Calls Tryz.prog 16 #[.int .i64 (k : Int), wp ah al, wp bh bl] w fun e w' => e = .returned (wv ((ah * 18446744073709551616 + al) * (bh * 18446744073709551616 + bl) % Fnv.md k)) ∧ Below w.heap.size w w' := by
  obtain ⟨p, hp⟩ : ∃ p, p = ah * bl := ⟨_, rfl⟩
  obtain ⟨q, hq⟩ : ∃ q, q = al * bh := ⟨_, rfl⟩
  obtain ⟨r, hr⟩ : ∃ r, r = al * bl := ⟨_, rfl⟩
  have ht := wide_times ah al bh bl p q r _ hp hq hr rfl
  have o1 : (ah : Int) * (bl : Int) = (p : Int) := by rw [hp]; exact (Int.natCast_mul _ _).symm
  have o2 : (al : Int) * (bh : Int) = (q : Int) := by rw [hq]; exact (Int.natCast_mul _ _).symm
  obtain ⟨m, hm⟩ : ∃ m, m = r / 18446744073709551616 := ⟨_, rfl⟩
  obtain ⟨l, hl⟩ : ∃ l, l = r % 18446744073709551616 := ⟨_, rfl⟩
  have llt : l < 18446744073709551616 := by omega
  obtain ⟨H, hH⟩ : ∃ H, H = ((m + p) % 18446744073709551616 + q) % 18446744073709551616 := ⟨_, rfl⟩
  have Hlt : H < 18446744073709551616 := by omega
  have o3 : IntKind.u64.wrap ((m : Int) + IntKind.u64.wrap (p : Int)) = (((m + p) % 18446744073709551616 : Nat) : Int) := by rw [IntKind.wrap_u64, IntKind.wrap_u64]; omega
  have o4 : IntKind.u64.wrap ((((m + p) % 18446744073709551616 : Nat) : Int) + IntKind.u64.wrap (q : Int)) = (H : Int) := by rw [IntKind.wrap_u64, IntKind.wrap_u64, hH]; omega
  obtain ⟨t, et⟩ : ∃ t, t = (m + p) % 18446744073709551616 := ⟨_, rfl⟩
  rw [← et] at o3 o4
  rw [← hm, ← hl, ← hH] at ht
  have hres : wp (cuth k H) (cutl k l) = wv ((ah * 18446744073709551616 + al) * (bh * 18446744073709551616 + bl) % Fnv.md k) := by
    rw [cut_eq hk _ _ Hlt llt, ht, Nat.mod_mod_of_dvd _ (md_dvd hk)]
  have HRES := Lib.hid hres
  have HM := Lib.hid hm
  have HL := Lib.hid hl
  have HR := Lib.hid hr
  obtain ⟨W, hW⟩ : ∃ W, ((w.alloc (.cells #[.int .u64 (ah : Int), .int .u64 (al : Int)] 26)).alloc (.cells #[.int .u64 (bh : Int), .int .u64 (bl : Int)] 26)).alloc (.cells #[.int .u64 0, .int .u64 0] 26) = W := ⟨_, rfl⟩
  have bw : Below w.heap.size w W := by subst hW; exact (((Below.refl _ _).alloc (Nat.le_refl _) _).alloc (by simp) _).alloc (by simp; omega) _
  have sz : W.heap.size = w.heap.size + 3 := by subst hW; simp
  have e1 : W.heap[w.heap.size]? = some (.cells #[.int .u64 (ah : Int), .int .u64 (al : Int)] 26 (0, 0)) := by subst hW; rw [heap_alloc_old _ _ (by simp; omega)]; exact heap_alloc2_old w _ _
  have e2 : W.heap[w.heap.size + 1]? = some (.cells #[.int .u64 (bh : Int), .int .u64 (bl : Int)] 26 (0, 0)) := by subst hW; rw [heap_alloc_old _ _ (by simp)]; exact heap_alloc2_new w _ _
  have e3 : W.heap[w.heap.size + 2]? = some (.cells #[.int .u64 0, .int .u64 0] 26 (0, 0)) := by subst hW; rw [show w.heap.size + 2 = (w.alloc (.cells #[.int .u64 (ah : Int), .int .u64 (al : Int)] 26)).heap.size + 1 by simp]; exact heap_alloc2_new (w.alloc _) _ _
  have c0 : W.cell? ⟨w.heap.size, 0, none⟩ = some (.int .u64 (ah : Int)) := by rw [cell_of_row W _ 0 _ _ _ e1]; rfl
  have c1 : W.cell? ⟨w.heap.size, 1, none⟩ = some (.int .u64 (al : Int)) := by rw [cell_of_row W _ 1 _ _ _ e1]; rfl
  have d0 : W.cell? ⟨w.heap.size + 1, 0, none⟩ = some (.int .u64 (bh : Int)) := by rw [cell_of_row W _ 0 _ _ _ e2]; rfl
  have d1 : W.cell? ⟨w.heap.size + 1, 1, none⟩ = some (.int .u64 (bl : Int)) := by rw [cell_of_row W _ 1 _ _ _ e2]; rfl
  clear e1 e2 hp hq hr hm hl hH ht hres et
  go_enter Tryz.func16, Tryz.ntmps16
  go_wp2_with fail
  refine (mul64_any al bl h2 h4 W).mono ?_
  rintro e w1 ⟨rfl, rfl⟩
  rw [← HR.out, ← HM.out, ← HL.out]
  go_wp2_with fail
  refine (cut_any k hk H l Hlt llt W).mono ?_
  rintro e w1 ⟨rfl, hb1⟩
  have z1 := hb1.size
  have e4 : w1.heap[w.heap.size + 2]? = some (.cells #[.int .u64 0, .int .u64 0] 26 (0, 0)) := by rw [hb1.block _ (by omega)]; exact e3
  have bw1 : Below w.heap.size w w1 := bw.trans (hb1.mono (by omega))
  have g0 : w1.cell? ⟨w.heap.size + 2, 0, none⟩ = some (.int .u64 0) := by rw [cell_of_row w1 _ 0 _ _ _ e4]; rfl
  have g1 : w1.cell? ⟨w.heap.size + 2, 1, none⟩ = some (.int .u64 0) := by rw [cell_of_row w1 _ 1 _ _ _ e4]; rfl
  have f0 : ∀ j, w1.frozen? ⟨w.heap.size + 2, j, none⟩ = false := fun j => frozen_of_row w1 _ j _ _ e4
  clear e3 e4 hb1 c0 c1 d0 d1 hW
  go_wp2_with fail
  refine bodyPost_ret (v := wp (cuth k H) (cutl k l)) (by simp [results, Tryz.results16, go_sem, g0, g1]) rfl ⟨by rw [HRES.out], ?_⟩
  exact (bw1.setCell (p := ⟨w.heap.size + 2, 0, none⟩) (by simp) _).setCell (p := ⟨w.heap.size + 2, 1, none⟩) (by simp) _

theorem times_any (k : Nat) (hk : k < 6) (a b : Nat) (h1 : a < 340282366920938463463374607431768211456) (h2 : b < 340282366920938463463374607431768211456) (w : World) :
    Calls Tryz.prog 16 #[.int .i64 (k : Int), wv a, wv b] w fun e w' => e = .returned (wv (a * b % Fnv.md k)) ∧ Below w.heap.size w w' := by
  have h := times_words k hk (a / 18446744073709551616) (a % 18446744073709551616) (b / 18446744073709551616) (b % 18446744073709551616) (by omega) (by omega) (by omega) (by omega) w
  rw [show a / 18446744073709551616 * 18446744073709551616 + a % 18446744073709551616 = a by omega, show b / 18446744073709551616 * 18446744073709551616 + b % 18446744073709551616 = b by omega] at h
  exact h
end Go.Proofs.YtaplmdbcjckbkaaGreat

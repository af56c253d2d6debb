/-
  Several texts in one: SpoP, Kec, Dg, ShaX, ShaY, ShaP, ShaW, ShaV, ShaV2, ShaN. Conditions: as each says.
-/
import Derived.Test.YtemojkjcnkbpoaaGreatDoorBase
import Derived.Laws.CopyRow
import Derived.Laws.Externs
import Derived.Test.YtemojkjcnkbpoaaGreatDoorRow
import Derived.Test.YtemojkjcnkbpoaaGreatDoorSrc
import Derived.WalkSpells
import Derived.LaidEqlPtr
import Derived.Lib.Overlaps
import Derived.RegionTactic
import Derived.Outline
import Derived.Deep.RegionWith
import Derived.Deep.DeepCutAuto
import Derived.Deep.QuietTactic
import Derived.BigQuiet
import Derived.StillTailTactics
import Derived.Test.YtemojkjcnkbpoaaGreatDoorSlc
/-
  Plain: a sponge over any permutation of 200 bytes: absorbing and squeezing byte by byte, and in chunks. No program here. No condition.
-/
namespace Go.Proofs.YtemojkjcnkbpoaaGreatDoor.Spo

section
variable (kf : List UInt8 → List UInt8) (rate : Nat)

/-- a state: 200 bytes and a place -/
abbrev S : Type := List UInt8 × Nat

def absorb : S → List UInt8 → S
  | s, [] => s
  | (a, n), x :: r => if n + 1 = rate then absorb (kf (a.set n (a.getD n 0 ^^^ x)), 0) r else absorb (a.set n (a.getD n 0 ^^^ x), n + 1) r

def xorAt (a : List UInt8) (n : Nat) : List UInt8 → List UInt8
  | [] => a
  | x :: r => xorAt (a.set n (a.getD n 0 ^^^ x)) (n + 1) r

theorem absorb_append (s : S) (x y : List UInt8) : absorb kf rate s (x ++ y) = absorb kf rate (absorb kf rate s x) y := by
  induction x generalizing s with
  | nil => simp [absorb]
  | cons b r ih =>
    obtain ⟨a, n⟩ := s
    rw [List.cons_append, absorb, absorb]
    split <;> exact ih _

theorem absorb_less (a : List UInt8) (n : Nat) (xs : List UInt8) (h : n + xs.length < rate) : absorb kf rate (a, n) xs = (xorAt a n xs, n + xs.length) := by
  induction xs generalizing a n with
  | nil => simp [absorb, xorAt]
  | cons x r ih =>
    simp only [List.length_cons] at h
    rw [absorb, if_neg (by omega), ih _ _ (by omega), xorAt]
    simp only [List.length_cons, Prod.mk.injEq, true_and]
    omega

theorem absorb_full (a : List UInt8) (n : Nat) (xs : List UInt8) (h : n + xs.length = rate) (hx : xs ≠ []) : absorb kf rate (a, n) xs = (kf (xorAt a n xs), 0) := by
  induction xs generalizing a n with
  | nil => exact absurd rfl hx
  | cons x r ih =>
    simp only [List.length_cons] at h
    rw [absorb]
    by_cases hr : r = []
    · subst hr
      simp only [List.length_nil] at h
      rw [if_pos (by omega)]
      simp [absorb, xorAt]
    · have := List.length_pos_iff.2 hr
      rw [if_neg (by omega), ih _ _ (by omega) hr, xorAt]

theorem xorAt_len (a : List UInt8) (n : Nat) (xs : List UInt8) : (xorAt a n xs).length = a.length := by
  induction xs generalizing a n with
  | nil => rfl
  | cons x r ih => rw [xorAt, ih, List.length_set]

theorem xorAt_get (a : List UInt8) (n : Nat) (xs : List UInt8) (h : n + xs.length ≤ a.length) (i : Nat) (hi : i < a.length) :
    (xorAt a n xs).getD i 0 = if n ≤ i ∧ i < n + xs.length then a.getD i 0 ^^^ xs.getD (i - n) 0 else a.getD i 0 := by
  induction xs generalizing a n with
  | nil => rw [xorAt, if_neg (by simp only [List.length_nil]; omega)]
  | cons x r ih =>
    simp only [List.length_cons] at h ⊢
    rw [xorAt, ih _ _ (by rw [List.length_set]; omega) (by rw [List.length_set]; omega)]
    simp only [List.getD_eq_getElem?_getD, List.getElem?_set]
    by_cases h1 : n = i
    · subst h1
      rw [if_neg (by omega), if_pos rfl, if_pos (by omega), if_pos (by omega)]
      simp
    · rw [if_neg h1]
      by_cases h2 : n + 1 ≤ i ∧ i < n + 1 + r.length
      · rw [if_pos h2, if_pos (by omega)]
        have : i - n = (i - (n + 1)) + 1 := by omega
        rw [this, List.getElem?_cons_succ]
      · rw [if_neg h2, if_neg (by omega)]

/-- the place stays below the rate, the bytes stay 200 -/
theorem absorb_ok (hk : ∀ l, (kf l).length = 200) (h0 : 0 < rate) (s : S) (xs : List UInt8) (hs : s.1.length = 200 ∧ s.2 < rate) : (absorb kf rate s xs).1.length = 200 ∧ (absorb kf rate s xs).2 < rate := by
  induction xs generalizing s with
  | nil => simpa [absorb] using hs
  | cons x r ih =>
    obtain ⟨a, n⟩ := s
    rw [absorb]
    split
    · exact ih _ ⟨hk _, h0⟩
    · refine ih _ ⟨by rw [List.length_set]; exact hs.1, ?_⟩
      have := hs.2
      simp only at this ⊢
      omega

/-- bytes out of a state that is being squeezed -/
def wet (s : S) : S := if s.2 = rate then (kf s.1, 0) else s
def sqz : Nat → S → List UInt8
  | 0, _ => []
  | k + 1, s => (wet kf rate s).1.getD (wet kf rate s).2 0 :: sqz k ((wet kf rate s).1, (wet kf rate s).2 + 1)
def sqzS : Nat → S → S
  | 0, s => s
  | k + 1, s => sqzS k ((wet kf rate s).1, (wet kf rate s).2 + 1)

theorem sqz_len (k : Nat) (s : S) : (sqz kf rate k s).length = k := by
  induction k generalizing s with
  | zero => rfl
  | succ k ih => rw [sqz, List.length_cons, ih]
theorem sqz_add (j k : Nat) (s : S) : sqz kf rate (j + k) s = sqz kf rate j s ++ sqz kf rate k (sqzS kf rate j s) ∧ sqzS kf rate (j + k) s = sqzS kf rate k (sqzS kf rate j s) := by
  induction j generalizing s with
  | zero => simp [sqz, sqzS]
  | succ j ih =>
    rw [Nat.add_right_comm, sqz, sqz, sqzS, sqzS, List.cons_append]
    have h := ih ((wet kf rate s).1, (wet kf rate s).2 + 1)
    rw [h.1, h.2]
    exact ⟨rfl, rfl⟩
theorem sqz_chunk (a : List UInt8) (n k : Nat) (h : n + k ≤ rate) (hl : rate ≤ a.length) : sqz kf rate k (a, n) = (a.drop n).take k ∧ sqzS kf rate k (a, n) = (a, n + k) := by
  induction k generalizing n with
  | zero => simp [sqz, sqzS]
  | succ k ih =>
    have hw : wet kf rate (a, n) = (a, n) := by unfold wet; rw [if_neg (by simp only; omega)]
    rw [sqz, sqzS, hw]
    obtain ⟨h1, h2⟩ := ih (n + 1) (by omega)
    simp only
    rw [h1, h2]
    have hn : n < a.length := by omega
    constructor
    · rw [List.drop_eq_getElem_cons hn, List.take_succ_cons]
      simp [List.getD_eq_getElem?_getD, List.getElem?_eq_getElem hn]
    · simp only [Prod.mk.injEq, true_and]; omega
theorem wet_sqz (k : Nat) (s : S) (hk : 0 < k) (h0 : 0 < rate) : sqz kf rate k s = sqz kf rate k (wet kf rate s) ∧ sqzS kf rate k s = sqzS kf rate k (wet kf rate s) := by
  obtain ⟨k, rfl⟩ : ∃ j, k = j + 1 := ⟨k - 1, by omega⟩
  have hw : wet kf rate (wet kf rate s) = wet kf rate s := by
    unfold wet
    split
    · simp only; rw [if_neg (by omega)]
    · rfl
  rw [sqz, sqz, sqzS, sqzS, hw]
  exact ⟨rfl, rfl⟩
theorem sqzS_ok (hk : ∀ l, (kf l).length = 200) (k : Nat) (s : S) (hs : s.1.length = 200 ∧ s.2 ≤ rate) (h0 : 0 < rate) : (sqzS kf rate k s).1.length = 200 ∧ (sqzS kf rate k s).2 ≤ rate := by
  induction k generalizing s with
  | zero => exact hs
  | succ k ih =>
    rw [sqzS]
    refine ih _ ?_
    unfold wet
    split
    · exact ⟨hk _, by simp only; omega⟩
    · exact ⟨hs.1, by have := hs.2; simp only; omega⟩
/-- two outputs of one state have the same beginning -/
theorem sqz_take (j k : Nat) (s : S) (h : j ≤ k) : (sqz kf rate k s).take j = sqz kf rate j s := by
  obtain ⟨m, rfl⟩ : ∃ m, k = j + m := ⟨k - j, by omega⟩
  rw [(sqz_add kf rate j m s).1, List.take_append_of_le_length (by rw [sqz_len]; exact Nat.le_refl _), List.take_of_length_le (by rw [sqz_len]; exact Nat.le_refl _)]
end

end Go.Proofs.YtemojkjcnkbpoaaGreatDoor.Spo

/-
  The model's entries for keccakF1600 and xorBytes, at bytes that lie in a block: what they leave. No condition but where the bytes lie.
-/
namespace Go.Proofs.YtemojkjcnkbpoaaGreatDoor
open Go.RowKit

/-- the permutation, as the model has it -/
def kf (a : List UInt8) : List UInt8 :=
  (List.range 200).map fun k => UInt8.ofNat ((Extern.Keccak.roundConstants.foldl Extern.Keccak.round ((Array.range 25).map fun i => (List.range 8).foldr (fun j acc => acc * 256 + (a.map (·.toNat)).toArray.getD (8 * i + j) 0) 0)).getD (k / 8) 0 / 256 ^ (k % 8) % 256)
theorem kf_len (a : List UInt8) : (kf a).length = 200 := by simp [kf]

theorem run_mapM_list {P : Program} {α β : Type} (f : α → Sem β) (g : α → β) (w : World) : ∀ (l : List α), (∀ x ∈ l, (f x).run P w = .ok (g x) w) → (l.mapM f).run P w = .ok (l.map g) w
  | [], _ => by simp
  | x :: r, h => by
    rw [List.mapM_cons]
    simp only [Sem.run_bind, Sem.run_pure, h x (by simp), Result.andThen_ok, run_mapM_list f g w r (fun y hy => h y (by simp [hy])), List.map_cons]
theorem run_mapM_arr {P : Program} {α β : Type} (f : α → Sem β) (g : α → β) (w : World) (l : List α) (h : ∀ x ∈ l, (f x).run P w = .ok (g x) w) : (l.toArray.mapM f).run P w = .ok (l.map g).toArray w := by
  rw [List.mapM_toArray, map_eq_pure_bind]
  simp only [Sem.run_bind, Sem.run_pure, run_mapM_list f g w l h, Result.andThen_ok]

theorem run_asInt_bv {P : Program} (x : UInt8) (w : World) : (asInt (bv x)).run P w = .ok (x.toNat : Int) w := by
  simp [asInt, asIntOf, bv]

theorem run_keccak {P : Program} (w : World) (h o : Nat) (cs : Array Value) (T : TypeId) (a : List UInt8) (hh : w.heap[h]? = some (.cells cs T (0, 0))) (hl : a.length = 200) (hc : ∀ i x, a[i]? = some x → cs[o + i]? = some (bv x)) (hs : o + 200 ≤ cs.size) :
    (Extern.Keccak.keccakF1600 #[.pointer (some ⟨h, o, none⟩)]).run P w = .ok (.tuple #[]) (w.setRow h (cs.toList.take o ++ (kf a).map bv ++ cs.toList.drop (o + 200)).toArray) := by
  have hload := run_loadCells_list (P := P) w ⟨h, o, none⟩ (a.map bv) (fun j v hj => by
    rw [addr_add, cell_of_row w h _ cs T (0, 0) hh]
    rw [List.getElem?_map, Option.map_eq_some_iff] at hj
    obtain ⟨x, hx, rfl⟩ := hj
    exact hc j x hx)
  rw [List.length_map, hl] at hload
  have hmap := run_mapM_arr (P := P) (fun c => do pure (← asInt c).toNat) (fun c => match c with | .int _ n => n.toNat | _ => 0) w (a.map bv) (fun c hcc => by
    obtain ⟨x, _, rfl⟩ := List.mem_map.1 hcc
    simp only [Sem.run_bind, Sem.run_pure, run_asInt_bv, Result.andThen_ok]
    rfl)
  have hmm : (a.map bv).map (fun c => match c with | .int _ n => n.toNat | _ => 0) = a.map (·.toNat) := by
    rw [List.map_map]
    apply List.map_congr_left
    intro x _
    simp [bv]
  rw [hmm] at hmap
  have hst := run_storeCells_at P h o T ((kf a).map bv) 0 cs w hh (by rw [List.length_map, kf_len]; omega) (bv_one _)
  rw [List.length_map, kf_len, Nat.add_zero] at hst
  have hkv : (List.range 200).map (fun k => Value.int .u8 (Int.ofNat ((Extern.Keccak.roundConstants.foldl Extern.Keccak.round ((Array.range 25).map fun i => (List.range 8).foldr (fun j acc => acc * 256 + (a.map (·.toNat)).toArray.getD (8 * i + j) 0) 0)).getD (k / 8) 0 / 256 ^ (k % 8) % 256))) = (kf a).map bv := by
    unfold kf
    rw [List.map_map]
    apply List.map_congr_left
    intro k _
    simp only [Function.comp, bv, UInt8.toNat_ofNat']
    rw [Nat.mod_mod]
    rfl
  change Sem.run P (α := Value) (do
    let a ← asAddr (.pointer (some ⟨h, o, none⟩))
    let bytes ← (← loadCells a 200).mapM fun c => do pure (← asInt c).toNat
    storeCells a ((List.range 200).map fun k => .int .u8 (Int.ofNat ((Extern.Keccak.roundConstants.foldl Extern.Keccak.round ((Array.range 25).map fun i => (List.range 8).foldr (fun j acc => acc * 256 + bytes.getD (8 * i + j) 0) 0)).getD (k / 8) 0 / 256 ^ (k % 8) % 256)))
    pure (.tuple #[])) w = _
  have ha : (asAddr (.pointer (some ⟨h, o, none⟩))).run P w = .ok ⟨h, o, none⟩ w := by simp [asAddr]
  simp only [Sem.run_bind, Sem.run_pure, ha, Result.andThen_ok, hload, hmap]
  rw [hkv, hst]
  rfl

/-- place by place -/
def xorL : List UInt8 → List UInt8 → List UInt8
  | x :: r, y :: s => (x ^^^ y) :: xorL r s
  | _, _ => []
theorem xorL_len : ∀ (x y : List UInt8), x.length = y.length → (xorL x y).length = x.length
  | [], [], _ => rfl
  | x :: r, y :: s, h => by simp only [xorL, List.length_cons] at h ⊢; rw [xorL_len r s (by omega)]
theorem xorL_zip : ∀ (x y : List UInt8), (x.zip y).map (fun p => p.1 ^^^ p.2) = xorL x y
  | [], _ => by simp [xorL]
  | _ :: _, [] => by simp [xorL]
  | x :: r, y :: s => by simp [xorL, xorL_zip r s]

theorem run_xorBytes {P : Program} (w : World) (h o b s n : Nat) (cs : Array Value) (T : TypeId) (x y : List UInt8) (hh : w.heap[h]? = some (.cells cs T (0, 0))) (hx : x.length = n) (hy : y.length = n) (hc : ∀ i z, x[i]? = some z → cs[o + i]? = some (bv z)) (hs : o + n ≤ cs.size)
    (hyc : ∀ i z, y[i]? = some z → w.cell? ⟨b, s + i, none⟩ = some (bv z)) :
    (Extern.CryptoHooks.xorBytes #[.pointer (some ⟨h, o, none⟩), .pointer (some ⟨h, o, none⟩), .pointer (some ⟨b, s, none⟩), .int .i64 (n : Int)]).run P w = .ok (.tuple #[]) (w.setRow h (cs.toList.take o ++ (xorL x y).map bv ++ cs.toList.drop (o + n)).toArray) := by
  have hl1 := run_loadCells_list (P := P) w ⟨h, o, none⟩ (x.map bv) (fun j v hj => by
    rw [addr_add, cell_of_row w h _ cs T (0, 0) hh]
    rw [List.getElem?_map, Option.map_eq_some_iff] at hj
    obtain ⟨z, hz, rfl⟩ := hj
    exact hc j z hz)
  have hl2 := run_loadCells_list (P := P) w ⟨b, s, none⟩ (y.map bv) (fun j v hj => by
    rw [addr_add]
    rw [List.getElem?_map, Option.map_eq_some_iff] at hj
    obtain ⟨z, hz, rfl⟩ := hj
    exact hyc j z hz)
  rw [List.length_map, hx] at hl1
  rw [List.length_map, hy] at hl2
  have hz : (x.map bv).toArray.zip (y.map bv).toArray = ((x.zip y).map fun p => (bv p.1, bv p.2)).toArray := by
    rw [List.zip_toArray, List.zip_map]
    rfl
  have hmap := run_mapM_arr (P := P) (fun (p : Value × Value) => do pure (Value.int .u8 (Int.ofNat ((← asInt p.1).toNat ^^^ (← asInt p.2).toNat)))) (fun p => match p with | (.int _ n, .int _ m) => .int .u8 (Int.ofNat (n.toNat ^^^ m.toNat)) | _ => undef) w ((x.zip y).map fun p => (bv p.1, bv p.2)) (fun c hcc => by
    obtain ⟨p, _, rfl⟩ := List.mem_map.1 hcc
    simp only [Sem.run_bind, Sem.run_pure, run_asInt_bv, Result.andThen_ok]
    rfl)
  have hmm : ((x.zip y).map fun p => (bv p.1, bv p.2)).map (fun (p : Value × Value) => match p with | (.int _ n, .int _ m) => Value.int .u8 (Int.ofNat (n.toNat ^^^ m.toNat)) | _ => undef) = (xorL x y).map bv := by
    rw [List.map_map, ← xorL_zip, List.map_map]
    apply List.map_congr_left
    intro p _
    simp only [Function.comp, bv]
    rw [UInt8.toNat_xor]
    rfl
  rw [hmm] at hmap
  have hst := run_storeCells_at P h o T ((xorL x y).map bv) 0 cs w hh (by rw [List.length_map, xorL_len x y (by omega)]; omega) (bv_one _)
  rw [List.length_map, xorL_len x y (by omega), hx, Nat.add_zero] at hst
  have hi : (asInt (.int .i64 (n : Int))).run P w = .ok (n : Int) w := by simp [asInt, asIntOf]
  change Sem.run P (α := Value) (do
    let n := (← asInt (.int .i64 (n : Int))).toNat
    let xs ← loadCells (← asAddr (.pointer (some ⟨h, o, none⟩))) n
    let ys ← loadCells (← asAddr (.pointer (some ⟨b, s, none⟩))) n
    let out ← (xs.zip ys).mapM fun (p : Value × Value) => do pure (Value.int .u8 (Int.ofNat ((← asInt p.1).toNat ^^^ (← asInt p.2).toNat)))
    storeCells (← asAddr (.pointer (some ⟨h, o, none⟩))) out.toList
    pure (.tuple #[])) w = _
  have ha : ∀ x : Addr, (asAddr (.pointer (some x))).run P w = .ok x w := fun x => by simp [asAddr]
  simp only [Sem.run_bind, Sem.run_pure, ha, Result.andThen_ok, hi, Int.toNat_natCast, hl1, hl2, hz, hmap, hst]

end Go.Proofs.YtemojkjcnkbpoaaGreatDoor

/-
  The block of a digest of SHA-3: its cells, and what stores into it make of it. No condition.
-/
namespace Go.Proofs.YtemojkjcnkbpoaaGreatDoor
open Go.RowKit
set_option linter.unusedVariables false

/-- the cells of a digest: the state, the place, the rate, the byte of the domain, the length of the sum, the direction; what stands behind -/
def dgL (a : List UInt8) (n rate ds out st : Nat) (tl : List Value) : List Value := a.map bv ++ ([.int .i64 (n : Int), .int .i64 (rate : Int), .int .u8 (ds : Int), .int .i64 (out : Int), .int .i64 (st : Int)] ++ tl)

structure DG (w : World) (h : Nat) (T : TypeId) (a : List UInt8) (n rate ds out st : Nat) (tl : List Value) : Prop where
  blk : w.heap[h]? = some (.cells (dgL a n rate ds out st tl).toArray T (0, 0))
  len : a.length = 200

section
variable {w : World} {h : Nat} {T : TypeId} {a : List UInt8} {n rate ds out st : Nat} {tl : List Value}

theorem dgL_at (hl : a.length = 200) (i : Nat) : (dgL a n rate ds out st tl)[i]? = if i < 200 then (a.map bv)[i]? else ([.int .i64 (n : Int), .int .i64 (rate : Int), .int .u8 (ds : Int), .int .i64 (out : Int), .int .i64 (st : Int)] ++ tl)[i - 200]? := by
  unfold dgL
  by_cases hi : i < 200
  · rw [if_pos hi, List.getElem?_append_left (by rw [List.length_map]; omega)]
  · rw [if_neg hi, List.getElem?_append_right (by rw [List.length_map]; omega), List.length_map, hl]
theorem dgL_len (hl : a.length = 200) : (dgL a n rate ds out st tl).length = 205 + tl.length := by
  unfold dgL; simp only [List.length_append, List.length_map, List.length_cons, List.length_nil, hl]; omega

theorem DG.cell (d : DG w h T a n rate ds out st tl) (i : Nat) : w.cell? ⟨h, i, none⟩ = (dgL a n rate ds out st tl)[i]? := by
  rw [cell_of_row w h i _ _ _ d.blk]; simp
theorem DG.byte (d : DG w h T a n rate ds out st tl) {i : Nat} {x : UInt8} (hx : a[i]? = some x) : w.cell? ⟨h, i, none⟩ = some (bv x) := by
  have hi := (List.getElem?_eq_some_iff.1 hx).1
  have := d.len
  rw [d.cell, dgL_at d.len, if_pos (by omega), List.getElem?_map, hx]; rfl
theorem DG.fz (d : DG w h T a n rate ds out st tl) (i : Nat) : w.frozen? ⟨h, i, none⟩ = false := frozen_of_row w h i _ _ d.blk
theorem DG.cs (d : DG w h T a n rate ds out st tl) : w.cell? ⟨h, 200, none⟩ = some (.int .i64 (n : Int)) ∧ w.cell? ⟨h, 201, none⟩ = some (.int .i64 (rate : Int)) ∧ w.cell? ⟨h, 202, none⟩ = some (.int .u8 (ds : Int)) ∧ w.cell? ⟨h, 203, none⟩ = some (.int .i64 (out : Int)) ∧ w.cell? ⟨h, 204, none⟩ = some (.int .i64 (st : Int)) := by
  refine ⟨?_, ?_, ?_, ?_, ?_⟩ <;> rw [d.cell, dgL_at d.len] <;> rfl
theorem DG.lt (d : DG w h T a n rate ds out st tl) : h < w.heap.size := (Array.getElem?_eq_some_iff.1 d.blk).1
theorem DG.keep {w' : World} (d : DG w h T a n rate ds out st tl) (e : w'.heap[h]? = w.heap[h]?) : DG w' h T a n rate ds out st tl := ⟨e.trans d.blk, d.len⟩

theorem heap_set_dg (cs : Array Value) (hh : w.heap[h]? = some (.cells cs T (0, 0))) (i : Nat) (v : Value) : (w.setCell ⟨h, i, none⟩ v).heap[h]? = some (.cells (cs.setIfInBounds i v) T (0, 0)) := by
  simp [World.setCell, Array.getElem?_modify, hh]
theorem dgL_set_n (hl : a.length = 200) (m : Nat) : (dgL a n rate ds out st tl).set 200 (.int .i64 (m : Int)) = dgL a m rate ds out st tl := by
  unfold dgL
  rw [List.set_append_right _ _ (by rw [List.length_map]; omega), List.length_map, hl]
  rfl
theorem dgL_set_st (hl : a.length = 200) (m : Nat) : (dgL a n rate ds out st tl).set 204 (.int .i64 (m : Int)) = dgL a n rate ds out m tl := by
  unfold dgL
  rw [List.set_append_right _ _ (by rw [List.length_map]; omega), List.length_map, hl]
  rfl
theorem dgL_set_a (hl : a.length = 200) (i : Nat) (hi : i < 200) (x : UInt8) : (dgL a n rate ds out st tl).set i (bv x) = dgL (a.set i x) n rate ds out st tl := by
  unfold dgL
  rw [List.set_append_left _ _ (by rw [List.length_map]; omega), List.map_set]
theorem DG.setN (d : DG w h T a n rate ds out st tl) (m : Nat) (z : Int) (hz : z = (m : Int)) : DG (w.setCell ⟨h, 200, none⟩ (.int .i64 z)) h T a m rate ds out st tl := by
  subst hz
  refine ⟨?_, d.len⟩
  rw [heap_set_dg _ d.blk, List.setIfInBounds_toArray, dgL_set_n d.len]
theorem DG.setSt (d : DG w h T a n rate ds out st tl) (m : Nat) (z : Int) (hz : z = (m : Int)) : DG (w.setCell ⟨h, 204, none⟩ (.int .i64 z)) h T a n rate ds out m tl := by
  subst hz
  refine ⟨?_, d.len⟩
  rw [heap_set_dg _ d.blk, List.setIfInBounds_toArray, dgL_set_st d.len]
theorem DG.setA (d : DG w h T a n rate ds out st tl) (i : Nat) (hi : i < 200) (x : UInt8) (z : Int) (hz : z = (x.toNat : Int)) : DG (w.setCell ⟨h, i, none⟩ (.int .u8 z)) h T (a.set i x) n rate ds out st tl := by
  subst hz
  refine ⟨?_, by rw [List.length_set]; exact d.len⟩
  rw [heap_set_dg _ d.blk, List.setIfInBounds_toArray]
  have := dgL_set_a (n := n) (rate := rate) (ds := ds) (out := out) (st := st) (tl := tl) d.len i hi x
  unfold bv at this
  rw [this]
/-- a piece of the state is written -/
theorem DG.put (d : DG w h T a n rate ds out st tl) (o : Nat) (xs : List UInt8) (ho : o + xs.length ≤ 200) :
    DG (w.setRow h ((dgL a n rate ds out st tl).take o ++ xs.map bv ++ (dgL a n rate ds out st tl).drop (o + xs.length)).toArray) h T (a.take o ++ xs ++ a.drop (o + xs.length)) n rate ds out st tl := by
  have hl := d.len
  refine ⟨?_, by simp only [List.length_append, List.length_take, List.length_drop, hl]; omega⟩
  rw [setRow_heap w h _ _ _ _ d.blk]
  have e : (dgL a n rate ds out st tl).take o ++ xs.map bv ++ (dgL a n rate ds out st tl).drop (o + xs.length) = dgL (a.take o ++ xs ++ a.drop (o + xs.length)) n rate ds out st tl := by
    unfold dgL
    rw [List.take_append_of_le_length (by rw [List.length_map]; omega), List.drop_append_of_le_length (by rw [List.length_map]; omega), List.map_append, List.map_append, List.map_take, List.map_drop, List.append_assoc, List.append_assoc, List.append_assoc]
  rw [e]
end

end Go.Proofs.YtemojkjcnkbpoaaGreatDoor

/-
  SHA-3's parts: the permutation, and XORBytes into the state. No condition but where the bytes lie.
-/
namespace Go.Proofs.YtemojkjcnkbpoaaGreatDoor
open Go.RowKit
set_option linter.unusedVariables false

theorem keccak_call {w : World} {h : Nat} {T : TypeId} {a : List UInt8} {n rate ds out st : Nat} {tl : List Value} (d : DG w h T a n rate ds out st tl) :
    ∃ w', (callFunc 87 #[.pointer (some ⟨h, 0, none⟩)]).run Tryz.prog w = .ok (.value (.tuple #[])) w' ∧ DG w' h T (kf a) n rate ds out st tl ∧ w.grownBy w' (some h) := by
  have hl := d.len
  have hk := kf_len a
  refine ⟨w.setRow h ((dgL a n rate ds out st tl).take 0 ++ (kf a).map bv ++ (dgL a n rate ds out st tl).drop (0 + (kf a).length)).toArray, ?_, ?_, ?_⟩
  · rw [run_callFunc_extern Tryz.func87 (by kernel_rfl) (by kernel_rfl) (by kernel_rfl) (e := Extern.Keccak.keccakF1600) (by kernel_rfl), run_keccak w h 0 _ T a d.blk hl (fun i x hx => by rw [Nat.zero_add, List.getElem?_toArray, dgL_at hl, if_pos (by have := (List.getElem?_eq_some_iff.1 hx).1; omega), List.getElem?_map, hx]; rfl) (by rw [List.size_toArray, dgL_len hl]; omega), hk]
    rfl
  · have := d.put 0 (kf a) (by omega)
    rw [List.drop_of_length_le (l := a) (by omega), List.append_nil, List.take_zero (l := a)] at this
    exact this
  · exact ⟨rfl, rfl, rfl, by simp, fun k _ hk => heap_setRow_other _ _ _ _ (fun e => hk (by rw [e]))⟩

set_option maxHeartbeats 1000000 in
theorem permute_any {w : World} {h : Nat} {T : TypeId} {a : List UInt8} {n rate ds out st : Nat} {tl : List Value} (d : DG w h T a n rate ds out st tl) :
    Calls Tryz.prog 83 #[.pointer (some ⟨h, 0, none⟩)] w fun e w' => e = .returned (.tuple #[]) ∧ DG w' h T (kf a) 0 rate ds out st tl ∧ w.grownBy w' (some h) := by
  obtain ⟨w1, hrun, d1, hg⟩ := keccak_call d
  obtain ⟨c200, -⟩ := d1.cs
  have f200 := d1.fz 200
  have D1 := Lib.hid d1
  clear d1
  go_enter Tryz.func83, Tryz.ntmps83
  go_wp2_with (simp only [hrun])
  go_end0
  refine ⟨rfl, D1.out.setN 0 0 rfl, ?_⟩
  exact ⟨hg.os, hg.tape, hg.output, by simpa [World.setCell] using hg.size, fun k hk hr => (Below.heap_setCell _ _ _ _ (fun e => hr (by rw [e]))).trans (hg.block k hk hr)⟩

theorem u8info : ∃ j, Tryz.prog.info? 5 = some j ∧ j.size ≠ 0 := by
  obtain ⟨i0, hi, hz0, hz1, hz2⟩ := info_parts info5
  exact ⟨i0, hi, by rw [hz1]; decide⟩

set_option maxHeartbeats 1000000 in
theorem inexact_same (p : Addr) (n c n' c' : Nat) (w : World) (hn : 0 < n) (hn' : 0 < n') (hp : p.spot = none) :
    Calls Tryz.prog 85 #[.slice (some p) n c, .slice (some p) n' c'] w fun e w' => e = .returned (.bool false) ∧ w' = w.drew := by
  obtain ⟨j, hj, hsz⟩ := u8info
  obtain ⟨b, o, s⟩ := p
  obtain rfl : s = none := hp
  have he := fun W => run_eql_ptr_same (P := Tryz.prog) W ⟨b, o, none⟩ Tryz.underlying122 hj
  have t1 : ((n : Int) == 0) = false := by simp; omega
  have t2 : ((n' : Int) == 0) = false := by simp; omega
  have t3 : (0 : Int) < (n : Int) := by omega
  have t4 : (0 : Int) < (n' : Int) := by omega
  go_enter Tryz.func85, Tryz.ntmps85
  go_wp2
  go_region
  go_wp2
  go_ret
  exact ⟨rfl, rfl⟩

end Go.Proofs.YtemojkjcnkbpoaaGreatDoor

/-
  subtle.XORBytes into a piece of a digest's state. No condition but where the bytes lie.
-/
namespace Go.Proofs.YtemojkjcnkbpoaaGreatDoor
open Go.RowKit
set_option linter.unusedVariables false

theorem overlap_call (b o b' o' n c n' c' : Nat) (w : World) (cs cs' : Array Value) (T T' : TypeId) (hb : w.heap[b]? = some (.cells cs T (0, 0))) (hb' : w.heap[b']? = some (.cells cs' T' (0, 0))) (hne : b ≠ b') (hs' : cs'.size ≠ 0) :
    (callFunc 89 #[.slice (some ⟨b, o, none⟩) n c, .slice (some ⟨b', o', none⟩) n' c']).run Tryz.prog w = .ok (.value (.bool false)) w := by
  rw [run_callFunc_extern Tryz.func89 (by kernel_rfl) (by kernel_rfl) (by kernel_rfl) (e := Extern.SlicesOverlaps.overlaps #[22, 22] #[4]) (by kernel_rfl),
    Lib.run_overlaps_apart w 22 4 5 Tryz.underlying22 1 (fun _ => by kernel_rfl) ⟨b, o, none⟩ ⟨b', o', none⟩ n c n' c' hne T T' cs.size cs'.size (by simp [World.shape?, hb]) (by simp [World.shape?, hb']) hs' (frozen_of_row w b o cs T hb) (frozen_of_row w b cs.size cs T hb)]
  rfl

set_option maxHeartbeats 1000000 in
theorem inexact_apart (b o b' o' n c n' c' : Nat) (w : World) (cs cs' : Array Value) (T T' : TypeId) (hb : w.heap[b]? = some (.cells cs T (0, 0))) (hb' : w.heap[b']? = some (.cells cs' T' (0, 0))) (hne : b ≠ b') (hs' : cs'.size ≠ 0) (hn : 0 < n) (hn' : 0 < n') :
    Calls Tryz.prog 85 #[.slice (some ⟨b, o, none⟩) n c, .slice (some ⟨b', o', none⟩) n' c'] w fun e w' => e = .returned (.bool false) ∧ w' = w.drew := by
  obtain ⟨j, hj, hsz⟩ := u8info
  have he := run_eql_ptr_other (P := Tryz.prog) w.drew (a := ⟨b, o, none⟩) (b := ⟨b', o', none⟩) Tryz.underlying122 hj hsz (fun e => hne (by injection e)) hb hb'
  have hc := overlap_call b o b' o' n c n' c' w.drew cs cs' T T' hb hb' hne hs'
  have t1 : ((n : Int) == 0) = false := by simp; omega
  have t2 : ((n' : Int) == 0) = false := by simp; omega
  have t3 : (0 : Int) < (n : Int) := by omega
  have t4 : (0 : Int) < (n' : Int) := by omega
  clear hb hb' hj
  go_enter Tryz.func85, Tryz.ntmps85
  go_wp2
  go_region
  go_wp2_with (simp only [hc])
  go_ret
  exact ⟨rfl, rfl⟩

theorem xor_call {w : World} {h : Nat} {T : TypeId} {a : List UInt8} {n rate ds out st : Nat} {tl : List Value} (d : DG w h T a n rate ds out st tl) (o b s k : Nat) (p : List UInt8) (hk : k = p.length) (ho : o + k ≤ 200) (hp : ∀ i z, p[i]? = some z → w.cell? ⟨b, s + i, none⟩ = some (bv z)) :
    ∃ w', (callFunc 86 #[.pointer (some ⟨h, o, none⟩), .pointer (some ⟨h, o, none⟩), .pointer (some ⟨b, s, none⟩), .int .i64 (k : Int)]).run Tryz.prog w = .ok (.value (.tuple #[])) w' ∧
      DG w' h T (a.take o ++ xorL ((a.drop o).take k) p ++ a.drop (o + k)) n rate ds out st tl ∧ w.grownBy w' (some h) := by
  have hl := d.len
  have hx : ((a.drop o).take k).length = k := by rw [List.length_take, List.length_drop]; omega
  have hxl := xorL_len ((a.drop o).take k) p (by omega)
  refine ⟨w.setRow h ((dgL a n rate ds out st tl).take o ++ (xorL ((a.drop o).take k) p).map bv ++ (dgL a n rate ds out st tl).drop (o + (xorL ((a.drop o).take k) p).length)).toArray, ?_, ?_, ?_⟩
  · rw [run_callFunc_extern Tryz.func86 (by kernel_rfl) (by kernel_rfl) (by kernel_rfl) (e := Extern.CryptoHooks.xorBytes) (by kernel_rfl),
      run_xorBytes w h o b s k _ T ((a.drop o).take k) p d.blk hx hk.symm (fun i z hz => ?_) (by rw [List.size_toArray, dgL_len hl]; omega) hp, hxl, hx]
    · rfl
    · rw [List.getElem?_toArray, dgL_at hl, if_pos (by have := (List.getElem?_eq_some_iff.1 hz).1; omega), List.getElem?_map]
      rw [List.getElem?_take] at hz
      split at hz
      · rw [List.getElem?_drop] at hz; rw [hz]; rfl
      · cases hz
  · have := d.put o (xorL ((a.drop o).take k) p) (by omega)
    rw [hxl, hx] at this ⊢
    exact this
  · exact ⟨rfl, rfl, rfl, by simp, fun k _ hk => heap_setRow_other _ _ _ _ (fun e => hk (by rw [e]))⟩

set_option maxRecDepth 100000 in
set_option maxHeartbeats 2000000 in
theorem xorBytes_any {w : World} {h : Nat} {T : TypeId} {a : List UInt8} {n rate ds out st : Nat} {tl : List Value} (d : DG w h T a n rate ds out st tl) (o L C b s m c k : Nat) (cs : Array Value) (T' : TypeId) (p : List UInt8) (hm : m = p.length) (hb : w.heap[b]? = some (.cells cs T' (0, 0))) (hbh : b ≠ h) (hp : ∀ i z, p[i]? = some z → cs[s + i]? = some (bv z))
    (hk : k = min L m) (hk0 : 0 < k) (hLC : L ≤ C) (hmc : m ≤ c) (hc : c ≤ 9223372036854775807) (hC : C ≤ 200) (ho : o + L ≤ 200) :
    Calls Tryz.prog 82 #[.slice (some ⟨h, o, none⟩) L C, .slice (some ⟨h, o, none⟩) L C, .slice (some ⟨b, s, none⟩) m c] w fun e w' => e = .returned (.int .i64 (k : Int)) ∧ DG w' h T (a.take o ++ xorL ((a.drop o).take k) (p.take k) ++ a.drop (o + k)) n rate ds out st tl ∧ w.grownBy w' (some h) := by
  have hcs : cs.size ≠ 0 := by
    have h1 : 0 < p.length := by omega
    have := hp 0 p[0] (List.getElem?_eq_getElem h1)
    have := (Array.getElem?_eq_some_iff.1 this).1
    omega
  have HD := Lib.hid d
  have HB := Lib.hid hb
  have HP := Lib.hid hp
  have HM := Lib.hid hm
  have HK := Lib.hid hk
  have hkL : k ≤ L := by omega
  have hkm : k ≤ m := by omega
  have t1 : ((k : Int) == 0) = false := by simp; omega
  have t2 : ¬ (L : Int) < (k : Int) := by omega
  have t3 : (0 : Int) ≤ (k : Int) := by omega
  have t4 : (k : Int) ≤ (C : Int) := by omega
  have t5 : (k : Int) ≤ (c : Int) := by omega
  have t6 : (0 : Int) < (L : Int) := by omega
  have t8 : 0 < L := by omega
  have t9 : 0 < m := by omega
  have t7 : (0 : Int) < (m : Int) := by omega
  have C1 : Hid (∀ q, Calls Tryz.prog 85 #[.slice (some ⟨h, o, none⟩) k C, .slice (some ⟨h, o, none⟩) k C] (w.drewN q) fun e w' => e = .returned (.bool false) ∧ ∃ m, w' = w.drewN m) := fun q => (inexact_same ⟨h, o, none⟩ k C k C (w.drewN q) hk0 hk0 rfl).mono fun e w1 hh => ⟨hh.1, q + 1, by rw [hh.2]; rfl⟩
  have C2 : Hid (∀ q, Calls Tryz.prog 85 #[.slice (some ⟨h, o, none⟩) k C, .slice (some ⟨b, s, none⟩) k c] (w.drewN q) fun e w' => e = .returned (.bool false) ∧ ∃ m, w' = w.drewN m) := fun q => (inexact_apart h o b s k C k c (w.drewN q) _ cs T T' d.blk hb (fun e => hbh e.symm) hcs hk0 hk0).mono fun e w1 hh => ⟨hh.1, q + 1, by rw [hh.2]; rfl⟩
  clear d hb hp hm
  go_enter Tryz.func82, Tryz.ntmps82
  go_upto_region 2 with (fail)
  go_cut [7, 14] (fun x y wc => x = .int .i64 (k : Int) ∧ y = .bool false ∧ wc = w)
  case first =>
    go_wp2_with fail
    all_goals (go_meet; refine ⟨?_, ?_, rfl⟩ <;> congr 1 <;> first | omega | (simp; omega))
  case rest =>
    obtain ⟨rfl, rfl, rfl⟩ := hcut
    clear hk
    go_wp2_with fail
    go_quiet ((go_at_call 85; first | with_reducible exact C1.out _ | with_reducible exact C2.out _))
    go_wp2_with fail
    have d0 := HD.out
    have d1 : DG (wc.drewN nq).drew h T a n rate ds out st tl := d0.keep rfl
    obtain ⟨W, hW⟩ : ∃ W, (wc.drewN nq).drew = W := ⟨_, rfl⟩
    rw [hW] at d1
    obtain ⟨w', e1, D', G⟩ := xor_call d1 o b s k (p.take k) (by rw [List.length_take]; have := HM.out; omega) (by omega) (fun i z hz => by
      rw [List.getElem?_take] at hz
      split at hz
      · have := HP.out i z hz
        rw [← hW]
        exact (cell_of_row _ b _ cs T' (0, 0) HB.out).trans this
      · cases hz)
    have E1 := Lib.hid D'
    have E2 := Lib.hid G
    clear D' G d0 d1
    go_still_tail 7, (by kernel_rfl)
    change wpList _ _ _ _ _ (wc.drewN nq).drew
    rw [hW]
    go_wp2_with (simp only [e1])
    go_ret
    refine ⟨rfl, E1.out, ?_⟩
    have := E2.out
    rw [← hW] at this
    obtain ⟨q1, q2, q3, q4, q5⟩ := this
    exact ⟨q1, q2, q3, q4, q5⟩
end Go.Proofs.YtemojkjcnkbpoaaGreatDoor

/-
  Plain: a round of a digest's Write, as the sponge has it. No program here. No condition.
-/
namespace Go.Proofs.YtemojkjcnkbpoaaGreatDoor
open Spo

theorem xorAt_eq (a : List UInt8) (n : Nat) (xs : List UInt8) (h : n + xs.length ≤ a.length) : xorAt a n xs = a.take n ++ xorL ((a.drop n).take xs.length) xs ++ a.drop (n + xs.length) := by
  induction xs generalizing a n with
  | nil => simp [xorAt, xorL]
  | cons x r ih =>
    simp only [List.length_cons] at h ⊢
    have hn : n < a.length := by omega
    rw [xorAt, ih _ _ (by rw [List.length_set]; omega)]
    have e1 : (a.set n (a.getD n 0 ^^^ x)).drop (n + 1) = a.drop (n + 1) := by rw [List.drop_set_of_lt (by omega)]
    have e2 : (a.set n (a.getD n 0 ^^^ x)).drop (n + 1 + r.length) = a.drop (n + (r.length + 1)) := by rw [List.drop_set_of_lt (by omega)]; congr 1; omega
    have e3 : (a.set n (a.getD n 0 ^^^ x)).take (n + 1) = a.take n ++ [a.getD n 0 ^^^ x] := by
      rw [List.take_add_one, List.getElem?_set_self hn]
      simp [List.take_set_of_le]
    have e4 : a.drop n = a.getD n 0 :: a.drop (n + 1) := by
      rw [List.drop_eq_getElem_cons hn]; simp [List.getD_eq_getElem?_getD, hn]
    rw [e1, e2, e3, e4, List.take_succ_cons, xorL]
    simp

theorem xorAt_eq' (a : List UInt8) (n k : Nat) (xs : List UInt8) (hk : k = xs.length) (h : n + k ≤ a.length) : a.take n ++ xorL ((a.drop n).take k) xs ++ a.drop (n + k) = xorAt a n xs := by
  subst hk; exact (xorAt_eq a n xs h).symm

theorem round_less (a : List UInt8) (n k rate : Nat) (r : List UInt8) (hk : k ≤ r.length) (h : n + k < rate) (hr : rate ≤ a.length) :
    absorb kf rate (a, n) r = absorb kf rate (a.take n ++ xorL ((a.drop n).take k) (r.take k) ++ a.drop (n + k), n + k) (r.drop k) := by
  have hl : (r.take k).length = k := by rw [List.length_take]; omega
  rw [xorAt_eq' a n k (r.take k) hl.symm (by omega)]
  conv => lhs; rw [← List.take_append_drop k r, absorb_append, absorb_less kf rate a n (r.take k) (by omega), hl]

theorem round_full (a : List UInt8) (n k rate : Nat) (r : List UInt8) (hk : k ≤ r.length) (h0 : 0 < k) (h : n + k = rate) (hr : rate ≤ a.length) :
    absorb kf rate (a, n) r = absorb kf rate (kf (a.take n ++ xorL ((a.drop n).take k) (r.take k) ++ a.drop (n + k)), 0) (r.drop k) := by
  have hl : (r.take k).length = k := by rw [List.length_take]; omega
  rw [xorAt_eq' a n k (r.take k) hl.symm (by omega)]
  conv => lhs; rw [← List.take_append_drop k r, absorb_append, absorb_full kf rate a n (r.take k) (by omega) (fun e => by rw [e] at hl; simp at hl; omega)]

end Go.Proofs.YtemojkjcnkbpoaaGreatDoor

/-
  SHA-3: (*Digest).writeGeneric: the sponge drinks. No condition but where the bytes lie.
-/
namespace Go.Proofs.YtemojkjcnkbpoaaGreatDoor
open Go.RowKit
open Spo
set_option linter.unusedVariables false

/-- in the midst of a Write -/
structure WI (w0 w : World) (h : Nat) (T : TypeId) (rate ds out : Nat) (tl : List Value) (F : S) (r : List UInt8) (A : Option Addr) (m c : Nat) (a : List UInt8) (n : Nat) : Prop where
  dg : DG w h T a n rate ds out 0 tl
  hn : n < rate
  hm : m = r.length
  hmc : m ≤ c
  hc : c ≤ 9223372036854775807
  src : Src w h A r
  fin : absorb kf rate (a, n) r = F
  gr : w0.grownBy w (some h)

theorem Src.lt {w : World} {h b o : Nat} {p : List UInt8} {cs : Array Value} {T : TypeId} (hb : w.heap[b]? = some (.cells cs T (0, 0))) : b < w.heap.size := (Array.getElem?_eq_some_iff.1 hb).1

theorem grown_trans {w0 w w' : World} {h : Nat} (g : w0.grownBy w (some h)) (g' : w.grownBy w' (some h)) : w0.grownBy w' (some h) :=
  ⟨g'.os.trans g.os, g'.tape.trans g.tape, g'.output.trans g.output, Nat.le_trans g.size g'.size, fun k hk hr => (g'.block k (Nat.lt_of_lt_of_le hk g.size) hr).trans (g.block k hk hr)⟩

theorem grown_setCell (w : World) (h i : Nat) (v : Value) : w.grownBy (w.setCell ⟨h, i, none⟩ v) (some h) :=
  ⟨rfl, rfl, rfl, by simp [World.setCell], fun k hk hr => Below.heap_setCell _ _ _ _ (fun e => hr (by rw [e]))⟩

set_option maxRecDepth 100000 in
set_option maxHeartbeats 4000000 in
theorem writeGeneric_any {w : World} {h : Nat} {T : TypeId} {a : List UInt8} {n rate ds out : Nat} {tl : List Value} (d : DG w h T a n rate ds out 0 tl) (A : Option Addr) (m c : Nat) (p : List UInt8) (hm : m = p.length) (hs : Src w h A p) (hmc : m ≤ c) (hc : c ≤ 9223372036854775807) (hn : n < rate) (hr : rate ≤ 200) :
    Calls Tryz.prog 79 #[.pointer (some ⟨h, 0, none⟩), .slice A m c] w fun e w' => e = .returned (.tuple #[.int .i64 (m : Int), .nilIface]) ∧ DG w' h T (absorb kf rate (a, n) p).1 (absorb kf rate (a, n) p).2 rate ds out 0 tl ∧ w.grownBy w' (some h) := by
  obtain ⟨F, hF⟩ : ∃ F, absorb kf rate (a, n) p = F := ⟨_, rfl⟩
  rw [hF]
  have W0 := Lib.hid (WI.mk (w0 := w) d hn hm hmc hc hs hF (World.grownBy.refl w (some h)))
  obtain ⟨c0, c1, c2, c3, c4⟩ := d.cs
  clear hF hs hm hn d c0 c1 c2 c3
  go_enter Tryz.func79, Tryz.ntmps79
  go_wp2_with fail
  clear c4
  go_loopg [1] m (fun gk x wr => ∃ (r : List UInt8) (A' : Option Addr) (m' c' : Nat) (a' : List UInt8) (n' : Nat), x = .slice A' m' c' ∧ gk = m' ∧ Hid (WI w wr h T rate ds out tl F r A' m' c' a' n'))
  case atStart => exact ⟨p, A, m, c, a, n, rfl, rfl, W0⟩
  case round =>
    clear W0 hmc hc
    obtain ⟨r, A', m', c', a', n', rfl, rfl, I⟩ := hrel
    have i1 := I.out.hmc
    have i2 := I.out.hc
    have i3 := I.out.hn
    by_cases hg0 : gk = 0
    · subst hg0
      have hr : r = [] := List.eq_nil_of_length_eq_zero I.out.hm.symm
      go_wp2_with fail
      go_ret2
      have e := I.out.fin
      rw [hr, absorb] at e
      rw [← e]
      exact ⟨rfl, I.out.dg, I.out.gr⟩
    · rcases I.out.src with e | ⟨b, s, cs, T', rfl, hb, hbh, hcc⟩
      · exact absurd (I.out.hm.trans (by rw [e]; rfl)) hg0
      have d1 : DG wr.drew h T a' n' rate ds out 0 tl := I.out.dg.keep rfl
      obtain ⟨c0, c1, -, -, -⟩ := d1.cs
      obtain ⟨k, hk⟩ : ∃ k, k = min (rate - n') gk := ⟨_, rfl⟩
      have k0 : 0 < k := by omega
      have kg : k ≤ gk := by omega
      have kr : n' + k ≤ rate := by omega
      have X := xorBytes_any d1 n' (rate - n') (200 - n') b s gk c' k cs T' r I.out.hm hb hbh hcc hk k0 (by omega) i1 i2 (by omega) (by omega)
      obtain ⟨W, hW⟩ : ∃ W, wr.drew = W := ⟨_, rfl⟩
      rw [hW] at X c0 c1
      have HX := Lib.hid X
      have HK := Lib.hid hk
      have HC := Lib.hid hcc
      have HB := Lib.hid hb
      clear X hcc hb hk d1
      have t1 : (0 : Int) < (gk : Int) := by omega
      have t2 : (n' : Int) ≤ (rate : Int) := by omega
      have t3 : (rate : Int) ≤ 200 := by omega
      have t4 : n' ≤ rate := by omega
      have t5 : ¬ n' = 200 := by omega
      have t6 : 0 < gk := by omega
      have t7 : ¬ 200 = n' := by omega
      go_wp2_with fail
      refine wp_region_still_tail 25 (by kernel_rfl) (by kernel_rfl) ?_
      have hV : ({ wr with drawn := wr.drawn + 1 } : World) = W := hW
      rw [hV]
      clear hV
      simp only [List.take_succ_cons, List.take_zero, List.drop_succ_cons, List.drop_zero]
      repeat still_step
      refine wpStill_nil ?_
      go_upto_region 7 with ((go_at_call 82; refine HX.out.mono ?_; rintro e w1 ⟨rfl, D1, G1⟩; obtain ⟨e0, e1, -, -, -⟩ := D1.cs; have f0 := D1.fz 200; replace D1 := Lib.hid D1; replace G1 := Lib.hid G1))
      obtain ⟨N, hN⟩ : ∃ N, n' + k = N := ⟨_, rfl⟩
      have D2 := D1.out.setN N ((n' : Int) + (k : Int)) (by omega)
      have G2 : w.grownBy (w1.setCell ⟨h, 200, none⟩ (.int .i64 ((n' : Int) + (k : Int)))) (some h) := by
        have g0 := I.out.gr
        have g1 := G1.out
        rw [← hW] at g1
        have g2 : wr.grownBy w1 (some h) := ⟨g1.os, g1.tape, g1.output, g1.size, g1.block⟩
        exact grown_trans (grown_trans g0 g2) (grown_setCell w1 h 200 _)
      have B2 : (w1.setCell ⟨h, 200, none⟩ (.int .i64 ((n' : Int) + (k : Int)))).heap[b]? = some (.cells cs T' (0, 0)) := by
        have g1 := G1.out
        rw [← hW] at g1
        rw [Below.heap_setCell _ _ _ _ (fun e => hbh (by first | exact e | exact e.symm))]
        exact (g1.block b (Src.lt (h := 0) (o := 0) (p := []) HB.out) (fun e => hbh (by injection e))).trans HB.out
      obtain ⟨w2, hw2⟩ : ∃ w2, w1.setCell ⟨h, 200, none⟩ (.int .i64 ((n' : Int) + (k : Int))) = w2 := ⟨_, rfl⟩
      rw [hw2] at D2 G2 B2 ⊢
      obtain ⟨A2, hA2, hs2⟩ := slice_lo (some ⟨b, s, none⟩) gk c' k kg i1
      have HA2 := Lib.hid hA2
      have HN := Lib.hid hN
      have HD2 := Lib.hid D2
      have HG2 := Lib.hid G2
      have HB2 := Lib.hid B2
      obtain ⟨c20, c21, -, -, -⟩ := D2.cs
      have hNr : N ≤ rate := by omega
      have S2 : Hid (∀ W : World, W.heap[b]? = some (.cells cs T' (0, 0)) → Src W h A2 (r.drop k)) := fun W hWb => by
        by_cases hkg : k < gk
        · exact .inr ⟨b, s + k, cs, T', HA2.out b s rfl hkg, hWb, hbh, fun i x hx => by
            rw [List.getElem?_drop] at hx
            have := HC.out _ _ hx
            rw [← Nat.add_assoc] at this
            exact this⟩
        · exact .inl (List.drop_eq_nil_of_le (by have := I.out.hm; omega))
      clear hw2 D2 G2 B2 hA2 hN e0 e1 f0 c0 c1 D1 G1 HB
      by_cases hfull : N = rate
      · have u1 : ((N : Int) == (rate : Int)) = true := by simp; omega
        have P2 : Hid (∀ q, Calls Tryz.prog 83 #[.pointer (some ⟨h, 0, none⟩)] (w2.drewN q) fun e w' => e = .returned (.tuple #[]) ∧ DG w' h T (kf (a'.take n' ++ xorL ((a'.drop n').take k) (r.take k) ++ a'.drop (n' + k))) 0 rate ds out 0 tl ∧ w2.grownBy w' (some h)) := fun q =>
          (permute_any (HD2.out.keep (w' := w2.drewN q) rfl)).mono fun e w' hh => ⟨hh.1, hh.2.1, ⟨hh.2.2.os, hh.2.2.tape, hh.2.2.output, hh.2.2.size, hh.2.2.block⟩⟩
        go_wp2_with (simp only [hs2])
        go_quiet (fail)
        go_wp2_with ((go_at_call 83; refine (P2.out _).mono ?_; rintro e w3 ⟨rfl, D3, G3⟩; replace D3 := Lib.hid D3; replace G3 := Lib.hid G3))
        go_roundg (gk - k)
        case measure => omega
        case rel =>
          refine ⟨r.drop k, A2, _, _, _, 0, rfl, rfl, D3.out, by omega, by rw [List.length_drop, ← I.out.hm], by omega, by omega, S2.out _ ?_, ?_, grown_trans HG2.out G3.out⟩
          · exact (G3.out.block b (Src.lt (h := 0) (o := 0) (p := []) HB2.out) (fun e => hbh (by injection e))).trans HB2.out
          · rw [← round_full a' n' k rate r (by rw [← I.out.hm]; omega) k0 (by have := HN.out; omega) (by rw [I.out.dg.len]; omega)]
            exact I.out.fin
      · have u1 : ((N : Int) == (rate : Int)) = false := by simp; omega
        go_wp2_with (simp only [hs2])
        go_quiet (fail)
        go_wp2_with fail
        go_roundg (gk - k)
        case measure => omega
        case rel =>
          refine ⟨r.drop k, A2, _, _, _, N, rfl, rfl, HD2.out.keep rfl, by omega, by rw [List.length_drop, ← I.out.hm], by omega, by omega, S2.out _ HB2.out, ?_, ⟨HG2.out.os, HG2.out.tape, HG2.out.output, HG2.out.size, HG2.out.block⟩⟩
          have := HN.out
          rw [← this, ← round_less a' n' k rate r (by rw [← I.out.hm]; omega) (by omega) (by rw [I.out.dg.len]; omega)]
          exact I.out.fin

end Go.Proofs.YtemojkjcnkbpoaaGreatDoor

/-
  SHA-3: Write through its wrappers. No condition but where the bytes lie.
-/
namespace Go.Proofs.YtemojkjcnkbpoaaGreatDoor
open Go.RowKit
open Spo
set_option linter.unusedVariables false

set_option maxHeartbeats 1000000 in
theorem write_any {w : World} {h : Nat} {T : TypeId} {a : List UInt8} {n rate ds out : Nat} {tl : List Value} (d : DG w h T a n rate ds out 0 tl) (A : Option Addr) (m c : Nat) (p : List UInt8) (hm : m = p.length) (hs : Src w h A p) (hmc : m ≤ c) (hc : c ≤ 9223372036854775807) (hn : n < rate) (hr : rate ≤ 200) :
    Calls Tryz.prog 75 #[.pointer (some ⟨h, 0, none⟩), .slice A m c] w fun e w' => e = .returned (.tuple #[.int .i64 (m : Int), .nilIface]) ∧ DG w' h T (absorb kf rate (a, n) p).1 (absorb kf rate (a, n) p).2 rate ds out 0 tl ∧ w.grownBy w' (some h) := by
  have X := Lib.hid (writeGeneric_any d A m c p hm hs hmc hc hn hr)
  clear d hm hs
  go_enter Tryz.func75, Tryz.ntmps75
  go_wp2_with ((go_at_call 79; refine X.out.mono ?_; rintro e w1 ⟨rfl, D1, G1⟩; replace D1 := Lib.hid D1; replace G1 := Lib.hid G1))
  go_ret2
  exact ⟨rfl, D1.out, G1.out⟩

set_option maxHeartbeats 1000000 in
theorem digestWrite_any {w : World} {h : Nat} {T : TypeId} {a : List UInt8} {n rate ds out : Nat} {tl : List Value} (d : DG w h T a n rate ds out 0 tl) (A : Option Addr) (m c : Nat) (p : List UInt8) (hm : m = p.length) (hs : Src w h A p) (hmc : m ≤ c) (hc : c ≤ 9223372036854775807) (hn : n < rate) (hr : rate ≤ 200) :
    Calls Tryz.prog 71 #[.pointer (some ⟨h, 0, none⟩), .slice A m c] w fun e w' => e = .returned (.tuple #[.int .i64 (m : Int), .nilIface]) ∧ DG w' h T (absorb kf rate (a, n) p).1 (absorb kf rate (a, n) p).2 rate ds out 0 tl ∧ w.grownBy w' (some h) := by
  have X := Lib.hid (write_any d A m c p hm hs hmc hc hn hr)
  clear d hm hs
  go_enter Tryz.func71, Tryz.ntmps71
  go_wp2_with ((go_at_call 75; refine X.out.mono ?_; rintro e w1 ⟨rfl, D1, G1⟩; replace D1 := Lib.hid D1; replace G1 := Lib.hid G1))
  go_ret2
  exact ⟨rfl, D1.out, G1.out⟩

set_option maxHeartbeats 1000000 in
theorem digestSize_any {w : World} {h : Nat} {T : TypeId} {a : List UInt8} {n rate ds out st : Nat} {tl : List Value} (d : DG w h T a n rate ds out st tl) :
    Calls Tryz.prog 72 #[.pointer (some ⟨h, 0, none⟩)] w fun e w' => e = .returned (.int .i64 (out : Int)) ∧ w' = w := by
  obtain ⟨c0, c1, c2, c3, c4⟩ := d.cs
  clear d c0 c1 c2 c4
  go_enter Tryz.func72, Tryz.ntmps72
  go_wp2
  go_ret
  exact ⟨rfl, rfl⟩

end Go.Proofs.YtemojkjcnkbpoaaGreatDoor

/-
  SHA-3: Write of a SHA3. No condition but where the bytes lie.
-/
namespace Go.Proofs.YtemojkjcnkbpoaaGreatDoor
open Go.RowKit
open Spo
set_option linter.unusedVariables false

set_option maxHeartbeats 1000000 in
theorem init_any {w : World} {h : Nat} {T : TypeId} {a : List UInt8} {n rate ds out st : Nat} {tl : List Value} (d : DG w h T a n rate ds out st tl) (ho : 0 < out) :
    Calls Tryz.prog 69 #[.pointer (some ⟨h, 0, none⟩)] w fun e w' => e = .returned (.tuple #[]) ∧ w' = w := by
  have X := Lib.hid (digestSize_any d)
  have t1 : ((out : Int) == 0) = false := by simp; omega
  clear d
  go_enter Tryz.func69, Tryz.ntmps69
  go_wp2_with ((go_at_call 72; refine X.out.mono ?_; rintro e w1 ⟨rfl, rfl⟩))
  go_end0
  exact ⟨rfl, rfl⟩

set_option maxHeartbeats 1000000 in
theorem sha3Write_any {w : World} {h : Nat} {T : TypeId} {a : List UInt8} {n rate ds out : Nat} {tl : List Value} (d : DG w h T a n rate ds out 0 tl) (ho : 0 < out) (A : Option Addr) (m c : Nat) (p : List UInt8) (hm : m = p.length) (hs : Src w h A p) (hmc : m ≤ c) (hc : c ≤ 9223372036854775807) (hn : n < rate) (hr : rate ≤ 200) :
    Calls Tryz.prog 68 #[.pointer (some ⟨h, 0, none⟩), .slice A m c] w fun e w' => e = .returned (.tuple #[.int .i64 (m : Int), .nilIface]) ∧ DG w' h T (absorb kf rate (a, n) p).1 (absorb kf rate (a, n) p).2 rate ds out 0 tl ∧ w.grownBy w' (some h) := by
  have X := Lib.hid (digestWrite_any d A m c p hm hs hmc hc hn hr)
  have Y := Lib.hid (init_any d ho)
  clear d hm hs
  go_enter Tryz.func68, Tryz.ntmps68
  go_wp2_with (first | (go_at_call 69; refine Y.out.mono ?_; rintro e w0 ⟨rfl, rfl⟩) | (go_at_call 71; refine X.out.mono ?_; rintro e w1 ⟨rfl, D1, G1⟩; replace D1 := Lib.hid D1; replace G1 := Lib.hid G1))
  go_ret2
  exact ⟨rfl, D1.out, G1.out⟩

end Go.Proofs.YtemojkjcnkbpoaaGreatDoor

/-
  SHA-3: a new digest, of each of the four sizes, and newHash at the kinds 7 to 10. No condition.
-/
namespace Go.Proofs.YtemojkjcnkbpoaaGreatDoor
open Go.RowKit
set_option linter.unusedVariables false

theorem wpList_run_build3 {P : Program} {w : World} {ops : Array Oper} {rest : List Oper} {o : Oper} {a : Act} {Q : Exit → Act → World → Prop} (hgd : o.guard = none) (t : TypeId) (i j k : Nat) (x y z : Value) (ho : o.op = .build t #[(i, .const x), (j, .const y), (k, .const z)]) (v : Value)
    (hrun : (Instr.build t #[(i, x), (j, y), (k, z)]).run P w = .ok v w) (h : wpList P ops Q rest (a.put o.dst v) w) : wpList P ops Q (o :: rest) a w := by
  refine wpList_plain hgd fun _ hK => ?_
  unfold Oper.wp execOp
  simp only [ho, List.map_toArray, List.map_cons, List.map_nil, Act.eval, Sem.run_bind, hrun, Result.andThen_ok, Sem.run_pure]
  exact hK _ _ h
theorem wpList_run_load1 {P : Program} {w : World} {ops : Array Oper} {rest : List Oper} {o : Oper} {a : Act} {Q : Exit → Act → World → Prop} (hgd : o.guard = none) (t : TypeId) (x : Operand) (ho : o.op = .load t x) (v0 v : Value) (hx : a.eval x = v0)
    (hrun : (Instr.loadAt t v0).run P w = .ok v w) (h : wpList P ops Q rest (a.put o.dst v) w) : wpList P ops Q (o :: rest) a w := by
  refine wpList_plain hgd fun _ hK => ?_
  unfold Oper.wp execOp
  simp only [ho, hx, Sem.run_bind, hrun, Result.andThen_ok, Sem.run_pure]
  exact hK _ _ h

theorem load_dg (W : World) (g : Nat) (T : TypeId) (cs : Array Value) (hg : W.heap[g]? = some (.cells cs T (0, 0))) (hz : cs.size = 205) : (Instr.loadAt 107 (.pointer (some ⟨g, 0, none⟩))).run Tryz.prog W = .ok (.agg cs) W := by
  unfold Instr.loadAt
  simp only [Instr.sureAddr, Sem.run_bind, Sem.run_pure, Result.andThen_ok]
  exact run_loadVar_row W g T _ cs (0, 0) _ hg Tryz.underlying107 rfl (by rw [hz]; kernel_rfl)

def zeros : List UInt8 := List.replicate 200 0

set_option maxRecDepth 100000 in
theorem build_d224 (W : World) : (Instr.build 107 #[(2, .int .i64 144), (4, .int .i64 28), (3, .int .u8 6)]).run Tryz.prog W = .ok (.agg (dgL zeros 0 144 6 28 0 []).toArray) W := by kernel_rfl
set_option maxRecDepth 100000 in
theorem build_s224 (W : World) : (Instr.build 111 #[(0, .agg (dgL zeros 0 144 6 28 0 []).toArray)]).run Tryz.prog W = .ok (.agg (dgL zeros 0 144 6 28 0 []).toArray) W := by kernel_rfl
set_option maxRecDepth 100000 in
set_option maxHeartbeats 1000000 in
theorem newD224 (w : World) : Calls Tryz.prog 39 #[] w fun e w' => e = .returned (.pointer (some ⟨w.heap.size, 0, none⟩)) ∧ w'.heap[w.heap.size]? = some (.cells (dgL zeros 0 144 6 28 0 []).toArray 107 (0, 0)) ∧ Below w.heap.size w w' ∧ w'.heap.size = w.heap.size + 1 := by
  have hb := build_d224
  obtain ⟨cs, hcs⟩ : ∃ cs, (dgL zeros 0 144 6 28 0 []).toArray = cs := ⟨_, rfl⟩
  rw [hcs]
  simp only [hcs] at hb
  clear hcs
  go_enter Tryz.func39, Tryz.ntmps39
  go_wp2_with (refine wpList_run_build3 rfl 107 2 4 3 (.int .i64 144) (.int .i64 28) (.int .u8 6) rfl (.agg cs) (hb _) ?_)
  go_ret
  exact ⟨rfl, heap_alloc_new w _, (Below.refl _ _).alloc (Nat.le_refl _) _, by simp⟩
set_option maxRecDepth 100000 in
set_option maxHeartbeats 1000000 in
theorem newS224 (w : World) : Calls Tryz.prog 30 #[] w fun e w' => ∃ h, e = .returned (.pointer (some ⟨h, 0, none⟩)) ∧ DG w' h 111 zeros 0 144 6 28 0 [] ∧ w.heap.size ≤ h ∧ h < w'.heap.size ∧ Below w.heap.size w w' := by
  have hb := build_s224
  have hz : (dgL zeros 0 144 6 28 0 []).toArray.size = 205 := by kernel_rfl
  have X := newD224 w
  have HL : Hid (∀ W : World, W.heap[W.heap.size]? = some (.cells (dgL zeros 0 144 6 28 0 []).toArray 111 (0, 0)) → True) := fun _ _ => trivial
  obtain ⟨cs, hcs⟩ : ∃ cs, (dgL zeros 0 144 6 28 0 []).toArray = cs := ⟨_, rfl⟩
  simp only [hcs] at hb hz X
  have HE := Lib.hid hcs
  have HX := Lib.hid X
  clear hcs X HL
  go_enter Tryz.func30, Tryz.ntmps30
  go_upto_region 1 with fail
  go_wp2_with (first
    | (go_at_call 39; refine HX.out.mono ?_; rintro e w1 ⟨rfl, D1, B1, z1⟩; have L1 := load_dg w1 w.heap.size 107 cs D1 hz; replace B1 := Lib.hid B1; replace z1 := Lib.hid z1; clear D1)
    | refine wpList_run_load1 rfl 107 (.tmp 2) rfl (.pointer (some ⟨w.heap.size, 0, none⟩)) (.agg cs) rfl L1 ?_
    | refine wpList_run_build1 rfl 111 0 (.tmp 3) rfl (.agg cs) (.agg cs) rfl (hb _) ?_)
  go_ret
  have hz1 := z1.out
  refine ⟨_, rfl, ⟨?_, rfl⟩, by omega, ?_, (B1.out).alloc (by omega) _⟩
  · have := HE.out
    rw [this]
    exact heap_alloc_new w1 _
  · simp

set_option maxRecDepth 100000 in
theorem build_d256 (W : World) : (Instr.build 107 #[(2, .int .i64 136), (4, .int .i64 32), (3, .int .u8 6)]).run Tryz.prog W = .ok (.agg (dgL zeros 0 136 6 32 0 []).toArray) W := by kernel_rfl
set_option maxRecDepth 100000 in
theorem build_s256 (W : World) : (Instr.build 111 #[(0, .agg (dgL zeros 0 136 6 32 0 []).toArray)]).run Tryz.prog W = .ok (.agg (dgL zeros 0 136 6 32 0 []).toArray) W := by kernel_rfl
set_option maxRecDepth 100000 in
set_option maxHeartbeats 1000000 in
theorem newD256 (w : World) : Calls Tryz.prog 40 #[] w fun e w' => e = .returned (.pointer (some ⟨w.heap.size, 0, none⟩)) ∧ w'.heap[w.heap.size]? = some (.cells (dgL zeros 0 136 6 32 0 []).toArray 107 (0, 0)) ∧ Below w.heap.size w w' ∧ w'.heap.size = w.heap.size + 1 := by
  have hb := build_d256
  obtain ⟨cs, hcs⟩ : ∃ cs, (dgL zeros 0 136 6 32 0 []).toArray = cs := ⟨_, rfl⟩
  rw [hcs]
  simp only [hcs] at hb
  clear hcs
  go_enter Tryz.func40, Tryz.ntmps40
  go_wp2_with (refine wpList_run_build3 rfl 107 2 4 3 (.int .i64 136) (.int .i64 32) (.int .u8 6) rfl (.agg cs) (hb _) ?_)
  go_ret
  exact ⟨rfl, heap_alloc_new w _, (Below.refl _ _).alloc (Nat.le_refl _) _, by simp⟩
set_option maxRecDepth 100000 in
set_option maxHeartbeats 1000000 in
theorem newS256 (w : World) : Calls Tryz.prog 31 #[] w fun e w' => ∃ h, e = .returned (.pointer (some ⟨h, 0, none⟩)) ∧ DG w' h 111 zeros 0 136 6 32 0 [] ∧ w.heap.size ≤ h ∧ h < w'.heap.size ∧ Below w.heap.size w w' := by
  have hb := build_s256
  have hz : (dgL zeros 0 136 6 32 0 []).toArray.size = 205 := by kernel_rfl
  have X := newD256 w
  have HL : Hid (∀ W : World, W.heap[W.heap.size]? = some (.cells (dgL zeros 0 136 6 32 0 []).toArray 111 (0, 0)) → True) := fun _ _ => trivial
  obtain ⟨cs, hcs⟩ : ∃ cs, (dgL zeros 0 136 6 32 0 []).toArray = cs := ⟨_, rfl⟩
  simp only [hcs] at hb hz X
  have HE := Lib.hid hcs
  have HX := Lib.hid X
  clear hcs X HL
  go_enter Tryz.func31, Tryz.ntmps31
  go_upto_region 1 with fail
  go_wp2_with (first
    | (go_at_call 40; refine HX.out.mono ?_; rintro e w1 ⟨rfl, D1, B1, z1⟩; have L1 := load_dg w1 w.heap.size 107 cs D1 hz; replace B1 := Lib.hid B1; replace z1 := Lib.hid z1; clear D1)
    | refine wpList_run_load1 rfl 107 (.tmp 2) rfl (.pointer (some ⟨w.heap.size, 0, none⟩)) (.agg cs) rfl L1 ?_
    | refine wpList_run_build1 rfl 111 0 (.tmp 3) rfl (.agg cs) (.agg cs) rfl (hb _) ?_)
  go_ret
  have hz1 := z1.out
  refine ⟨_, rfl, ⟨?_, rfl⟩, by omega, ?_, (B1.out).alloc (by omega) _⟩
  · have := HE.out
    rw [this]
    exact heap_alloc_new w1 _
  · simp

set_option maxRecDepth 100000 in
theorem build_d384 (W : World) : (Instr.build 107 #[(2, .int .i64 104), (4, .int .i64 48), (3, .int .u8 6)]).run Tryz.prog W = .ok (.agg (dgL zeros 0 104 6 48 0 []).toArray) W := by kernel_rfl
set_option maxRecDepth 100000 in
theorem build_s384 (W : World) : (Instr.build 111 #[(0, .agg (dgL zeros 0 104 6 48 0 []).toArray)]).run Tryz.prog W = .ok (.agg (dgL zeros 0 104 6 48 0 []).toArray) W := by kernel_rfl
set_option maxRecDepth 100000 in
set_option maxHeartbeats 1000000 in
theorem newD384 (w : World) : Calls Tryz.prog 41 #[] w fun e w' => e = .returned (.pointer (some ⟨w.heap.size, 0, none⟩)) ∧ w'.heap[w.heap.size]? = some (.cells (dgL zeros 0 104 6 48 0 []).toArray 107 (0, 0)) ∧ Below w.heap.size w w' ∧ w'.heap.size = w.heap.size + 1 := by
  have hb := build_d384
  obtain ⟨cs, hcs⟩ : ∃ cs, (dgL zeros 0 104 6 48 0 []).toArray = cs := ⟨_, rfl⟩
  rw [hcs]
  simp only [hcs] at hb
  clear hcs
  go_enter Tryz.func41, Tryz.ntmps41
  go_wp2_with (refine wpList_run_build3 rfl 107 2 4 3 (.int .i64 104) (.int .i64 48) (.int .u8 6) rfl (.agg cs) (hb _) ?_)
  go_ret
  exact ⟨rfl, heap_alloc_new w _, (Below.refl _ _).alloc (Nat.le_refl _) _, by simp⟩
set_option maxRecDepth 100000 in
set_option maxHeartbeats 1000000 in
theorem newS384 (w : World) : Calls Tryz.prog 32 #[] w fun e w' => ∃ h, e = .returned (.pointer (some ⟨h, 0, none⟩)) ∧ DG w' h 111 zeros 0 104 6 48 0 [] ∧ w.heap.size ≤ h ∧ h < w'.heap.size ∧ Below w.heap.size w w' := by
  have hb := build_s384
  have hz : (dgL zeros 0 104 6 48 0 []).toArray.size = 205 := by kernel_rfl
  have X := newD384 w
  have HL : Hid (∀ W : World, W.heap[W.heap.size]? = some (.cells (dgL zeros 0 104 6 48 0 []).toArray 111 (0, 0)) → True) := fun _ _ => trivial
  obtain ⟨cs, hcs⟩ : ∃ cs, (dgL zeros 0 104 6 48 0 []).toArray = cs := ⟨_, rfl⟩
  simp only [hcs] at hb hz X
  have HE := Lib.hid hcs
  have HX := Lib.hid X
  clear hcs X HL
  go_enter Tryz.func32, Tryz.ntmps32
  go_upto_region 1 with fail
  go_wp2_with (first
    | (go_at_call 41; refine HX.out.mono ?_; rintro e w1 ⟨rfl, D1, B1, z1⟩; have L1 := load_dg w1 w.heap.size 107 cs D1 hz; replace B1 := Lib.hid B1; replace z1 := Lib.hid z1; clear D1)
    | refine wpList_run_load1 rfl 107 (.tmp 2) rfl (.pointer (some ⟨w.heap.size, 0, none⟩)) (.agg cs) rfl L1 ?_
    | refine wpList_run_build1 rfl 111 0 (.tmp 3) rfl (.agg cs) (.agg cs) rfl (hb _) ?_)
  go_ret
  have hz1 := z1.out
  refine ⟨_, rfl, ⟨?_, rfl⟩, by omega, ?_, (B1.out).alloc (by omega) _⟩
  · have := HE.out
    rw [this]
    exact heap_alloc_new w1 _
  · simp

set_option maxRecDepth 100000 in
theorem build_d512 (W : World) : (Instr.build 107 #[(2, .int .i64 72), (4, .int .i64 64), (3, .int .u8 6)]).run Tryz.prog W = .ok (.agg (dgL zeros 0 72 6 64 0 []).toArray) W := by kernel_rfl
set_option maxRecDepth 100000 in
theorem build_s512 (W : World) : (Instr.build 111 #[(0, .agg (dgL zeros 0 72 6 64 0 []).toArray)]).run Tryz.prog W = .ok (.agg (dgL zeros 0 72 6 64 0 []).toArray) W := by kernel_rfl
set_option maxRecDepth 100000 in
set_option maxHeartbeats 1000000 in
theorem newD512 (w : World) : Calls Tryz.prog 42 #[] w fun e w' => e = .returned (.pointer (some ⟨w.heap.size, 0, none⟩)) ∧ w'.heap[w.heap.size]? = some (.cells (dgL zeros 0 72 6 64 0 []).toArray 107 (0, 0)) ∧ Below w.heap.size w w' ∧ w'.heap.size = w.heap.size + 1 := by
  have hb := build_d512
  obtain ⟨cs, hcs⟩ : ∃ cs, (dgL zeros 0 72 6 64 0 []).toArray = cs := ⟨_, rfl⟩
  rw [hcs]
  simp only [hcs] at hb
  clear hcs
  go_enter Tryz.func42, Tryz.ntmps42
  go_wp2_with (refine wpList_run_build3 rfl 107 2 4 3 (.int .i64 72) (.int .i64 64) (.int .u8 6) rfl (.agg cs) (hb _) ?_)
  go_ret
  exact ⟨rfl, heap_alloc_new w _, (Below.refl _ _).alloc (Nat.le_refl _) _, by simp⟩
set_option maxRecDepth 100000 in
set_option maxHeartbeats 1000000 in
theorem newS512 (w : World) : Calls Tryz.prog 33 #[] w fun e w' => ∃ h, e = .returned (.pointer (some ⟨h, 0, none⟩)) ∧ DG w' h 111 zeros 0 72 6 64 0 [] ∧ w.heap.size ≤ h ∧ h < w'.heap.size ∧ Below w.heap.size w w' := by
  have hb := build_s512
  have hz : (dgL zeros 0 72 6 64 0 []).toArray.size = 205 := by kernel_rfl
  have X := newD512 w
  have HL : Hid (∀ W : World, W.heap[W.heap.size]? = some (.cells (dgL zeros 0 72 6 64 0 []).toArray 111 (0, 0)) → True) := fun _ _ => trivial
  obtain ⟨cs, hcs⟩ : ∃ cs, (dgL zeros 0 72 6 64 0 []).toArray = cs := ⟨_, rfl⟩
  simp only [hcs] at hb hz X
  have HE := Lib.hid hcs
  have HX := Lib.hid X
  clear hcs X HL
  go_enter Tryz.func33, Tryz.ntmps33
  go_upto_region 1 with fail
  go_wp2_with (first
    | (go_at_call 42; refine HX.out.mono ?_; rintro e w1 ⟨rfl, D1, B1, z1⟩; have L1 := load_dg w1 w.heap.size 107 cs D1 hz; replace B1 := Lib.hid B1; replace z1 := Lib.hid z1; clear D1)
    | refine wpList_run_load1 rfl 107 (.tmp 2) rfl (.pointer (some ⟨w.heap.size, 0, none⟩)) (.agg cs) rfl L1 ?_
    | refine wpList_run_build1 rfl 111 0 (.tmp 3) rfl (.agg cs) (.agg cs) rfl (hb _) ?_)
  go_ret
  have hz1 := z1.out
  refine ⟨_, rfl, ⟨?_, rfl⟩, by omega, ?_, (B1.out).alloc (by omega) _⟩
  · have := HE.out
    rw [this]
    exact heap_alloc_new w1 _
  · simp

end Go.Proofs.YtemojkjcnkbpoaaGreatDoor


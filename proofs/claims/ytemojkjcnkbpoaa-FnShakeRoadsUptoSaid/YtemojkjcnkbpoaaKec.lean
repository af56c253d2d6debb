/-
  The model's entries for keccakF1600 and xorBytes, at bytes that lie in a block: what they leave. No condition but where the bytes lie.
-/
import Derived.Test.YtemojkjcnkbpoaaSpoP
import Derived.Laws.CopyRow
import Derived.Laws.Externs
namespace Go.Proofs.Ytemojkjcnkbpoaa
open Go.RowKit

/-- the permutation, as the model has it -/
def kf (a : List UInt8) : List UInt8 :=
  (List.range 200).map fun k => UInt8.ofNat ((Extern.Keccak.roundConstants.foldl Extern.Keccak.round ((Array.range 25).map fun i => (List.range 8).foldr (fun j acc => acc * 256 + (a.map (·.toNat)).toArray.getD (8 * i + j) 0) 0)).getD (k / 8) 0 / 256 ^ (k % 8) % 256)
theorem kf_len (a : List UInt8) : (kf a).length = 200 := by simp [kf]

theorem run_mapM_list {P : Program} {α β : Type} (f : α → Sem β) (g : α → β) (w : World) : ∀ (l : List α), (∀ x ∈ l, (f x).run P w = .ok (g x) w) → (l.mapM f).run P w = .ok (l.map g) w
  | [], _ => by simp
  | x :: r, h => by
    rw [List.mapM_cons]
    simp only [Sem.run_bind, Sem.run_pure, h x (by simp), Result.andThen_ok, run_mapM_list f g w r (fun y hy => h y (by simp [hy])), List.map_cons]
theorem run_mapM_arr {P : Program} {α β : Type} (f : α → Sem β) (g : α → β) (w : World) (l : List α) (h : ∀ x ∈ l, (f x).run P w = .ok (g x) w) : (l.toArray.mapM f).run P w = .ok (l.map g).toArray w := by
  rw [List.mapM_toArray, map_eq_pure_bind]
  simp only [Sem.run_bind, Sem.run_pure, run_mapM_list f g w l h, Result.andThen_ok]

theorem run_asInt_bv {P : Program} (x : UInt8) (w : World) : (asInt (bv x)).run P w = .ok (x.toNat : Int) w := by
  simp [asInt, asIntOf, bv]

theorem run_keccak {P : Program} (w : World) (h o : Nat) (cs : Array Value) (T : TypeId) (a : List UInt8) (hh : w.heap[h]? = some (.cells cs T (0, 0))) (hl : a.length = 200) (hc : ∀ i x, a[i]? = some x → cs[o + i]? = some (bv x)) (hs : o + 200 ≤ cs.size) :
    (Extern.Keccak.keccakF1600 #[.pointer (some ⟨h, o, none⟩)]).run P w = .ok (.tuple #[]) (w.setRow h (cs.toList.take o ++ (kf a).map bv ++ cs.toList.drop (o + 200)).toArray) := by
  have hload := run_loadCells_list (P := P) w ⟨h, o, none⟩ (a.map bv) (fun j v hj => by
    rw [addr_add, cell_of_row w h _ cs T (0, 0) hh]
    rw [List.getElem?_map, Option.map_eq_some_iff] at hj
    obtain ⟨x, hx, rfl⟩ := hj
    exact hc j x hx)
  rw [List.length_map, hl] at hload
  have hmap := run_mapM_arr (P := P) (fun c => do pure (← asInt c).toNat) (fun c => match c with | .int _ n => n.toNat | _ => 0) w (a.map bv) (fun c hcc => by
    obtain ⟨x, _, rfl⟩ := List.mem_map.1 hcc
    simp only [Sem.run_bind, Sem.run_pure, run_asInt_bv, Result.andThen_ok]
    rfl)
  have hmm : (a.map bv).map (fun c => match c with | .int _ n => n.toNat | _ => 0) = a.map (·.toNat) := by
    rw [List.map_map]
    apply List.map_congr_left
    intro x _
    simp [bv]
  rw [hmm] at hmap
  have hst := run_storeCells_at P h o T ((kf a).map bv) 0 cs w hh (by rw [List.length_map, kf_len]; omega) (bv_one _)
  rw [List.length_map, kf_len, Nat.add_zero] at hst
  have hkv : (List.range 200).map (fun k => Value.int .u8 (Int.ofNat ((Extern.Keccak.roundConstants.foldl Extern.Keccak.round ((Array.range 25).map fun i => (List.range 8).foldr (fun j acc => acc * 256 + (a.map (·.toNat)).toArray.getD (8 * i + j) 0) 0)).getD (k / 8) 0 / 256 ^ (k % 8) % 256))) = (kf a).map bv := by
    unfold kf
    rw [List.map_map]
    apply List.map_congr_left
    intro k _
    simp only [Function.comp, bv, UInt8.toNat_ofNat']
    rw [Nat.mod_mod]
    rfl
  change Sem.run P (α := Value) (do
    let a ← asAddr (.pointer (some ⟨h, o, none⟩))
    let bytes ← (← loadCells a 200).mapM fun c => do pure (← asInt c).toNat
    storeCells a ((List.range 200).map fun k => .int .u8 (Int.ofNat ((Extern.Keccak.roundConstants.foldl Extern.Keccak.round ((Array.range 25).map fun i => (List.range 8).foldr (fun j acc => acc * 256 + bytes.getD (8 * i + j) 0) 0)).getD (k / 8) 0 / 256 ^ (k % 8) % 256)))
    pure (.tuple #[])) w = _
  have ha : (asAddr (.pointer (some ⟨h, o, none⟩))).run P w = .ok ⟨h, o, none⟩ w := by simp [asAddr]
  simp only [Sem.run_bind, Sem.run_pure, ha, Result.andThen_ok, hload, hmap]
  rw [hkv, hst]
  rfl

/-- place by place -/
def xorL : List UInt8 → List UInt8 → List UInt8
  | x :: r, y :: s => (x ^^^ y) :: xorL r s
  | _, _ => []
theorem xorL_len : ∀ (x y : List UInt8), x.length = y.length → (xorL x y).length = x.length
  | [], [], _ => rfl
  | x :: r, y :: s, h => by simp only [xorL, List.length_cons] at h ⊢; rw [xorL_len r s (by omega)]
theorem xorL_zip : ∀ (x y : List UInt8), (x.zip y).map (fun p => p.1 ^^^ p.2) = xorL x y
  | [], _ => by simp [xorL]
  | _ :: _, [] => by simp [xorL]
  | x :: r, y :: s => by simp [xorL, xorL_zip r s]

theorem run_xorBytes {P : Program} (w : World) (h o b s n : Nat) (cs : Array Value) (T : TypeId) (x y : List UInt8) (hh : w.heap[h]? = some (.cells cs T (0, 0))) (hx : x.length = n) (hy : y.length = n) (hc : ∀ i z, x[i]? = some z → cs[o + i]? = some (bv z)) (hs : o + n ≤ cs.size)
    (hyc : ∀ i z, y[i]? = some z → w.cell? ⟨b, s + i, none⟩ = some (bv z)) :
    (Extern.CryptoHooks.xorBytes #[.pointer (some ⟨h, o, none⟩), .pointer (some ⟨h, o, none⟩), .pointer (some ⟨b, s, none⟩), .int .i64 (n : Int)]).run P w = .ok (.tuple #[]) (w.setRow h (cs.toList.take o ++ (xorL x y).map bv ++ cs.toList.drop (o + n)).toArray) := by
  have hl1 := run_loadCells_list (P := P) w ⟨h, o, none⟩ (x.map bv) (fun j v hj => by
    rw [addr_add, cell_of_row w h _ cs T (0, 0) hh]
    rw [List.getElem?_map, Option.map_eq_some_iff] at hj
    obtain ⟨z, hz, rfl⟩ := hj
    exact hc j z hz)
  have hl2 := run_loadCells_list (P := P) w ⟨b, s, none⟩ (y.map bv) (fun j v hj => by
    rw [addr_add]
    rw [List.getElem?_map, Option.map_eq_some_iff] at hj
    obtain ⟨z, hz, rfl⟩ := hj
    exact hyc j z hz)
  rw [List.length_map, hx] at hl1
  rw [List.length_map, hy] at hl2
  have hz : (x.map bv).toArray.zip (y.map bv).toArray = ((x.zip y).map fun p => (bv p.1, bv p.2)).toArray := by
    rw [List.zip_toArray, List.zip_map]
    rfl
  have hmap := run_mapM_arr (P := P) (fun (p : Value × Value) => do pure (Value.int .u8 (Int.ofNat ((← asInt p.1).toNat ^^^ (← asInt p.2).toNat)))) (fun p => match p with | (.int _ n, .int _ m) => .int .u8 (Int.ofNat (n.toNat ^^^ m.toNat)) | _ => undef) w ((x.zip y).map fun p => (bv p.1, bv p.2)) (fun c hcc => by
    obtain ⟨p, _, rfl⟩ := List.mem_map.1 hcc
    simp only [Sem.run_bind, Sem.run_pure, run_asInt_bv, Result.andThen_ok]
    rfl)
  have hmm : ((x.zip y).map fun p => (bv p.1, bv p.2)).map (fun (p : Value × Value) => match p with | (.int _ n, .int _ m) => Value.int .u8 (Int.ofNat (n.toNat ^^^ m.toNat)) | _ => undef) = (xorL x y).map bv := by
    rw [List.map_map, ← xorL_zip, List.map_map]
    apply List.map_congr_left
    intro p _
    simp only [Function.comp, bv]
    rw [UInt8.toNat_xor]
    rfl
  rw [hmm] at hmap
  have hst := run_storeCells_at P h o T ((xorL x y).map bv) 0 cs w hh (by rw [List.length_map, xorL_len x y (by omega)]; omega) (bv_one _)
  rw [List.length_map, xorL_len x y (by omega), hx, Nat.add_zero] at hst
  have hi : (asInt (.int .i64 (n : Int))).run P w = .ok (n : Int) w := by simp [asInt, asIntOf]
  change Sem.run P (α := Value) (do
    let n := (← asInt (.int .i64 (n : Int))).toNat
    let xs ← loadCells (← asAddr (.pointer (some ⟨h, o, none⟩))) n
    let ys ← loadCells (← asAddr (.pointer (some ⟨b, s, none⟩))) n
    let out ← (xs.zip ys).mapM fun (p : Value × Value) => do pure (Value.int .u8 (Int.ofNat ((← asInt p.1).toNat ^^^ (← asInt p.2).toNat)))
    storeCells (← asAddr (.pointer (some ⟨h, o, none⟩))) out.toList
    pure (.tuple #[])) w = _
  have ha : ∀ x : Addr, (asAddr (.pointer (some x))).run P w = .ok x w := fun x => by simp [asAddr]
  simp only [Sem.run_bind, Sem.run_pure, ha, Result.andThen_ok, hi, Int.toNat_natCast, hl1, hl2, hz, hmap, hst]

end Go.Proofs.Ytemojkjcnkbpoaa

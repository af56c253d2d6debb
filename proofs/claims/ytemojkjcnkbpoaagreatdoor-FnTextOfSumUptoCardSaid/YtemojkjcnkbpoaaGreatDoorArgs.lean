/-
  Arguments opened: a []byte as a list of bytes, a []int as a list of numbers, with the bounds that the row's reach or bulk gives. No condition.
-/
import Derived.Test.YtemojkjcnkbpoaaGreatDoorBase
import Derived.ProofKit
import Derived.OpenShut
import Derived.ShutString
import Derived.ChangeOld
import Derived.SizedLaws
namespace Go.Proofs.YtemojkjcnkbpoaaGreatDoor
open Go.ChangeShapes Go.WideShapes Go.ChangeAt Go.RowKit

theorem own : ownKnob Tryz.prog.godebug = none := by kernel_rfl
theorem laidOut : laidOutB Tryz.prog = true := by kernel_rfl

/-- the slice at A reads as the ints zs; it lies below block B -/
def RdI (w : World) (B : Nat) (A : Option Addr) (zs : List Int) : Prop :=
  (∀ z ∈ zs, -9223372036854775808 ≤ z ∧ z ≤ 9223372036854775807) ∧
  (zs = [] ∨ ∃ b off, A = some ⟨b, off, none⟩ ∧ b < B ∧ ∀ i x, zs[i]? = some x → w.cell? ⟨b, off + i, none⟩ = some (.int .i64 x))

theorem byte_of_wf {a : Int} (h : (Lit.int .u8 a).wf = true) : ∃ x : UInt8, a = (x.toNat : Int) := by
  have hb : 0 ≤ a ∧ a ≤ 255 := by simpa [Lit.wf, IntKind.min, IntKind.max, IntKind.signed, IntKind.bits] using h
  refine ⟨UInt8.ofNat a.toNat, ?_⟩
  rw [UInt8.toNat_ofNat']
  omega

theorem i64_of_wf {a : Int} (h : (Lit.int .i64 a).wf = true) : -9223372036854775808 ≤ a ∧ a ≤ 9223372036854775807 := by
  simpa [Lit.wf, IntKind.min, IntKind.max, IntKind.signed, IntKind.bits] using h

section
variable {H : Type} {enc : TypeId × Value → H} {W : World} {A : Option Addr} {len cap : Nat} {d : DataW H} {p : List MemPlace}

/-- what the datum of a slice says of its places -/
def SzOf (d : DataW H) (len cap : Nat) : Prop := (d = .nil ∧ len = 0 ∧ cap = 0) ∨ ∃ elems spare, d = .slice elems spare ∧ elems.length = len ∧ elems.length + spare.length = cap

theorem spot_none {w : World} {x : Addr} {v : Value} (h : w.cell? x = some v) : x.spot = none := by
  have := World.cell?_spot h
  exact this

theorem open_bytes (h : DataW.Trod enc Tryz.prog W 0 (fun _ => true) true 22 (.slice A len cap) d p) :
    ∃ bs : List UInt8, len = bs.length ∧ Rd W W.heap.size A bs ∧ len ≤ cap ∧ SzOf d len cap := by
  obtain ⟨fuel, hf⟩ := h
  rcases open_ints Tryz.underlying22 Tryz.underlying5 (by kernel_rfl) hf with ⟨hcs, hx⟩ | ⟨x, l, c, zs, hcs, _, hl, hm, hz, hx, hcell, hwz⟩
  · simp [Value.cells] at hcs
    obtain ⟨rfl, rfl, rfl⟩ := hcs
    simp only [Prod.mk.injEq] at hx
    exact ⟨[], rfl, Rd.nil _ _ _, Nat.le_refl _, .inl ⟨hx.1, rfl, rfl⟩⟩
  · simp [Value.cells] at hcs
    obtain ⟨rfl, rfl, rfl⟩ := hcs
    simp only [Prod.mk.injEq] at hx
    have hzc : zs.length = cap := by simpa using hz
    refine ⟨(zs.take len).map fun z => UInt8.ofNat z.toNat, by simp; omega, ?_, hl, .inr ⟨_, _, hx.1, by simp [lits]; omega, by simp [lits]; omega⟩⟩
    by_cases h0 : len = 0
    · subst h0
      exact .inl (by simp)
    · obtain ⟨b, off, spot⟩ := x
      have hc0 := hcell 0 (by omega)
      have hspot : spot = none := by simpa [Addr.add] using World.cell?_spot hc0
      subst hspot
      have hlt : b < W.heap.size := by
        have := World.block_lt_of_cell? W _ hc0
        simpa [Addr.add] using this
      refine .inr ⟨b, off, rfl, hlt, fun i y hy => ?_⟩
      simp only [List.getElem?_map, List.getElem?_take] at hy
      split at hy
      · rename_i hi
        have hiz : i < zs.length := by omega
        rw [List.getElem?_eq_getElem hiz] at hy
        simp only [Option.map_some, Option.some.injEq] at hy
        subst hy
        have hc := hcell i hiz
        rw [addr_add] at hc
        rw [hc]
        have hw := hwz zs[i] (List.getElem_mem hiz)
        have hb : 0 ≤ zs[i] ∧ zs[i] ≤ 255 := by simpa [Lit.wf, IntKind.min, IntKind.max, IntKind.signed, IntKind.bits] using hw
        rw [UInt8.toNat_ofNat', List.getD_eq_getElem?_getD, List.getElem?_eq_getElem hiz]
        simp only [Option.getD_some]
        congr 2
        omega
      · cases hy

theorem open_i64s (h : DataW.Trod enc Tryz.prog W 0 (fun _ => true) true 23 (.slice A len cap) d p) :
    ∃ zs : List Int, len = zs.length ∧ RdI W W.heap.size A zs ∧ len ≤ cap ∧ SzOf d len cap := by
  obtain ⟨fuel, hf⟩ := h
  rcases open_ints Tryz.underlying23 Tryz.underlying3 (by kernel_rfl) hf with ⟨hcs, hx⟩ | ⟨x, l, c, zs, hcs, _, hl, hm, hz, hx, hcell, hwz⟩
  · simp [Value.cells] at hcs
    obtain ⟨rfl, rfl, rfl⟩ := hcs
    simp only [Prod.mk.injEq] at hx
    exact ⟨[], rfl, ⟨by simp, .inl rfl⟩, Nat.le_refl _, .inl ⟨hx.1, rfl, rfl⟩⟩
  · simp [Value.cells] at hcs
    obtain ⟨rfl, rfl, rfl⟩ := hcs
    simp only [Prod.mk.injEq] at hx
    have hzc : zs.length = cap := by simpa using hz
    refine ⟨zs.take len, by simp; omega, ⟨fun z hz => i64_of_wf (hwz z (List.mem_of_mem_take hz)), ?_⟩, hl, .inr ⟨_, _, hx.1, by simp [lits]; omega, by simp [lits]; omega⟩⟩
    by_cases h0 : len = 0
    · subst h0
      exact .inl (by simp)
    · obtain ⟨b, off, spot⟩ := x
      have hc0 := hcell 0 (by omega)
      have hspot : spot = none := by simpa [Addr.add] using World.cell?_spot hc0
      subst hspot
      have hlt : b < W.heap.size := by
        have := World.block_lt_of_cell? W _ hc0
        simpa [Addr.add] using this
      refine .inr ⟨b, off, rfl, hlt, fun i y hy => ?_⟩
      simp only [List.getElem?_take] at hy
      split at hy
      · rename_i hi
        have hiz : i < zs.length := by omega
        have hc := hcell i hiz
        rw [addr_add] at hc
        rw [hc, List.getD_eq_getElem?_getD, hy]
        rfl
      · cases hy

theorem bytes_reach {ts : List TypeId} {ds : List (DataW H)} (hsz : (DataW.weightsEach Tryz.prog ts ds).all (· ≤ reachBytes) = true) {j : Nat} (ht : ts[j]? = some 22) (hd : ds[j]? = some d) (hs : SzOf d len cap) : cap ≤ 140737488351232 := by
  rcases hs with ⟨_, _, h⟩ | ⟨elems, spare, rfl, h1, h2⟩
  · omega
  · have h := sized_slice hsz ht hd Tryz.underlying22
    have hb : Tryz.prog.bytesOf 5 = 1 := by kernel_rfl
    rw [hb, h2] at h
    simp only [reachBytes] at h
    omega

theorem i64s_reach {ts : List TypeId} {ds : List (DataW H)} (hsz : (DataW.weightsEach Tryz.prog ts ds).all (· ≤ reachBytes) = true) {j : Nat} (ht : ts[j]? = some 23) (hd : ds[j]? = some d) (hs : SzOf d len cap) : cap ≤ 17592186043904 := by
  rcases hs with ⟨_, _, h⟩ | ⟨elems, spare, rfl, h1, h2⟩
  · omega
  · have h := sized_slice hsz ht hd Tryz.underlying23
    have hb : Tryz.prog.bytesOf 3 = 8 := by kernel_rfl
    rw [hb, h2] at h
    simp only [reachBytes] at h
    omega

theorem bulk_one (d : DataW H) : 1 ≤ Rows.uptoBulk d := by
  cases d with
  | lit l => cases l <;> simp [Rows.uptoBulk]
  | nil => simp [Rows.uptoBulk]
  | ptr d => simp [Rows.uptoBulk]
  | slice elems spare => simp [Rows.uptoBulk]
  | agg parts => simp [Rows.uptoBulk]
  | iface t d => simp [Rows.uptoBulk]
  | map entries => simp [Rows.uptoBulk]
  | held h => simp [Rows.uptoBulk]

theorem bulk_len (l : List (DataW H)) : l.length ≤ Rows.uptoBulkAll l := by
  induction l with
  | nil => simp [Rows.uptoBulkAll]
  | cons x r ih => have := bulk_one x; simp only [Rows.uptoBulkAll, List.length_cons]; omega

theorem bulk_slice (hs : SzOf d len cap) : cap ≤ Rows.uptoBulk d := by
  rcases hs with ⟨_, _, h⟩ | ⟨elems, spare, rfl, h1, h2⟩
  · omega
  · have h1 := bulk_len elems
    have h2 := bulk_len spare
    simp only [Rows.uptoBulk]
    omega
end

end Go.Proofs.YtemojkjcnkbpoaaGreatDoor

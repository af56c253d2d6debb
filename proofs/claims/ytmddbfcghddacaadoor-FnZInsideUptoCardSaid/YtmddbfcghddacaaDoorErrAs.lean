/-
  errors.As at a CorruptInputError and a variable of that type: true, and the variable holds the error. Condition: errors.errorType holds what its initialiser lays. (The walk is after the kit's worked example of errors.As.)
-/
import Derived.Test.YtmddbfcghddacaaDoorImpD
import Derived.LaidEql
import Derived.Stop.Asserts
import Derived.RowKitTokens
namespace Go.Proofs.YtmddbfcghddacaaDoor
open Go.RowKit Go.Extern.Stop Go.Stop Go.Extern
set_option linter.unusedVariables false

theorem ea_valueOfP (t : Addr) (w : World) : (ReflectliteValue.unpack (.iface 44 (.pointer (some t)))).run Tryd.prog w
    = .ok (.agg #[.pointer (some ⟨1, 44, none⟩), .pointer (some ⟨w.heap.size, 0, none⟩), .int .u64 150]) (w.alloc (.cells #[.pointer (some t)] 44)) := by kernel_rfl
theorem ea_typeP (a : Addr) (w : World) : (ReflectliteValue.methodAny (ReflectliteValue.valueError "reflectlite.Value.Type" 0) (fun t _ _ _ => ReflectliteType.toType t) #[.agg #[.pointer (some ⟨1, 44, none⟩), .pointer (some a), .int .u64 150]]).run Tryd.prog w
    = .ok (.iface 61 (.agg #[.pointer (some ⟨1, 44, none⟩)])) w := by kernel_rfl
theorem ea_mKind (k : Nat) (h : Value) (w : World) : (Go.method (k + 2) 61 (.agg #[h]) "Kind").run Tryd.prog w = .ok (40, h) w := by kernel_rfl
theorem ea_kindP (w : World) : ((ReflectliteType.abiMethod fun t => (fun a : Nat => Value.int IntKind.u8 (a : Int)) <$> Rtype.kind t) #[.pointer (some ⟨1, 44, none⟩)]).run Tryd.prog w = .ok (.int .u8 22) w := by kernel_rfl
theorem ea_kindE (w : World) : ((ReflectliteType.abiMethod fun t => (fun a : Nat => Value.int IntKind.u8 (a : Int)) <$> Rtype.kind t) #[.pointer (some ⟨1, 42, none⟩)]).run Tryd.prog w = .ok (.int .u8 6) w := by kernel_rfl

theorem ea_rlm (z : Sem Value) (f : TypeId → Addr → Nat → Nat → Sem Value) (v : Value) :
    ReflectliteValue.method z f #[v] = (do match ← ReflectliteValue.parts v with | none => z | some (t, a, fl) => f t a fl (fl % 32)) := rfl
theorem ea_partsP (a : Addr) (w : World) : (ReflectliteValue.parts (.agg #[.pointer (some ⟨1, 44, none⟩), .pointer (some a), .int .u64 150])).run Tryd.prog w = .ok (some (44, a, 150)) w := by kernel_rfl
theorem ea_isNilP (a p : Addr) (W : World) (ha : W.cell? a = some (.pointer (some p))) :
    (ReflectliteValue.method (ReflectliteValue.valueError "reflectlite.Value.IsNil" 0) ReflectliteValue.isNil #[.agg #[.pointer (some ⟨1, 44, none⟩), .pointer (some a), .int .u64 150]]).run Tryd.prog W = .ok (.bool false) W := by
  rw [ea_rlm]
  simp only [Sem.run_bind, ea_partsP, Result.andThen]
  simp [ReflectliteValue.isNil, loadVar, isAgg, underlying, Tryd.underlying44, ha, Result.andThen]
theorem ea_mElem (k : Nat) (h : Value) (w : World) : (Go.method (k + 1) 61 (.agg #[h]) "Elem").run Tryd.prog w = .ok (50, .agg #[h]) w := by kernel_rfl
theorem ea_mImpl (k : Nat) (h : Value) (w : World) : (Go.method (k + 1) 61 (.agg #[h]) "Implements").run Tryd.prog w = .ok (51, .agg #[h]) w := by kernel_rfl
theorem ea_mAssign (k : Nat) (h : Value) (w : World) : (Go.method (k + 1) 61 (.agg #[h]) "AssignableTo").run Tryd.prog w = .ok (48, .agg #[h]) w := by kernel_rfl
theorem ea_elemP (w : World) : (ReflectliteType.method ReflectliteType.elem #[.agg #[.pointer (some ⟨1, 44, none⟩)]]).run Tryd.prog w = .ok (.iface 61 (.agg #[.pointer (some ⟨1, 42, none⟩)])) w := by kernel_rfl
theorem ea_implE (w : World) : (ReflectliteType.relation "Implements" ReflectliteType.implements_ #[.agg #[.pointer (some ⟨1, 42, none⟩)], .iface 61 (.agg #[.pointer (some ⟨1, 39, none⟩)])]).run Tryd.prog w = .ok (.bool true) w := by kernel_rfl
theorem ea_typeOfE (v : Value) (w : World) : (ReflectliteType.typeOf #[.iface 42 v]).run Tryd.prog w = .ok (.iface 61 (.agg #[.pointer (some ⟨1, 42, none⟩)])) w := by kernel_rfl
theorem ea_assignE (w : World) : (ReflectliteType.relation "AssignableTo" ReflectliteType.assignableTo #[.agg #[.pointer (some ⟨1, 42, none⟩)], .iface 61 (.agg #[.pointer (some ⟨1, 42, none⟩)])]).run Tryd.prog w = .ok (.bool true) w := by kernel_rfl
theorem ea_valueOfE (i : Int) (w : World) : (ReflectliteValue.unpack (.iface 42 (.int .i64 i))).run Tryd.prog w
    = .ok (.agg #[.pointer (some ⟨1, 42, none⟩), .pointer (some ⟨w.heap.size, 0, none⟩), .int .u64 134]) (w.alloc (.cells #[.int .i64 i] 42)) := by kernel_rfl
theorem ea_elemOfP (w : World) : (Rtype.elem? 44).run Tryd.prog w = .ok (some 42) w := by kernel_rfl
theorem ea_mkE (p : Addr) (w : World) : (ReflectliteValue.mk 42 p ReflectliteValue.flagAddr).run Tryd.prog w = .ok (.agg #[.pointer (some ⟨1, 42, none⟩), .pointer (some p), .int .u64 390]) w := by kernel_rfl
theorem ea_elemV (a p : Addr) (W : World) (ha : W.cell? a = some (.pointer (some p))) :
    (ReflectliteValue.method (ReflectliteValue.valueError "reflectlite.Value.Elem" 0) ReflectliteValue.elem #[.agg #[.pointer (some ⟨1, 44, none⟩), .pointer (some a), .int .u64 150]]).run Tryd.prog W
      = .ok (.agg #[.pointer (some ⟨1, 42, none⟩), .pointer (some p), .int .u64 390]) W := by
  rw [ea_rlm]
  simp only [Sem.run_bind, ea_partsP, Result.andThen]
  simp [ReflectliteValue.elem, loadVar, isAgg, underlying, Tryd.underlying44, ha, Result.andThen, ea_elemOfP, ea_mkE]
theorem ea_partsEa (a : Addr) (w : World) : (ReflectliteValue.parts (.agg #[.pointer (some ⟨1, 42, none⟩), .pointer (some a), .int .u64 390])).run Tryd.prog w = .ok (some (42, a, 390)) w := by kernel_rfl
theorem ea_partsE (a : Addr) (w : World) : (ReflectliteValue.parts (.agg #[.pointer (some ⟨1, 42, none⟩), .pointer (some a), .int .u64 134])).run Tryd.prog w = .ok (some (42, a, 134)) w := by kernel_rfl
theorem ea_direct (w : World) : (Rtype.directlyAssignable 42 42).run Tryd.prog w = .ok true w := by kernel_rfl
theorem ea_rls (v x : Value) : ReflectliteValue.set #[v, x] = (do
    let (some (dst, a, fl), some (src, b, _)) := (← ReflectliteValue.parts v, ← ReflectliteValue.parts x)
      | unsupported (.noEntry "extern/(internal/reflectlite.Value).Set.zeroValue")
    if fl / ReflectliteValue.flagAddr % 2 == 0 then unsupported (.noEntry "extern/(internal/reflectlite.Value).Set.unaddressable")
    let val ← loadVar src b
    if ← Rtype.directlyAssignable dst src then storeVar dst a val
    else if ← Rtype.implements dst src then
      if (← Rtype.kind src) == 20 then
        match val with
        | .nilIface => unsupported (.noEntry "extern/reflectlite: a nil value of one interface type handed on as a value of another")
        | _ => storeVar dst a val
      else storeVar dst a (.iface src val)
    else panicString ("reflectlite.Set: value of type " ++ (← Rtype.spelt src) ++ " is not assignable to type " ++ (← Rtype.spelt dst))
    pure (.tuple #[])) := rfl
theorem ea_set (ta b : Addr) (i : Int) (old : Value) (W : World) (hb : W.cell? b = some (.int .i64 i)) (ht : W.cell? ta = some old) (hf : W.frozen? ta = false) :
    (ReflectliteValue.set #[.agg #[.pointer (some ⟨1, 42, none⟩), .pointer (some ta), .int .u64 390], .agg #[.pointer (some ⟨1, 42, none⟩), .pointer (some b), .int .u64 134]]).run Tryd.prog W
      = .ok (.tuple #[]) (W.setCell ta (.int .i64 i)) := by
  rw [ea_rls]
  simp only [Sem.run_bind, ea_partsEa, ea_partsE, Result.andThen]
  simp [ReflectliteValue.flagAddr, loadVar, isAgg, underlying, Tryd.underlying42, hb, Result.andThen, ea_direct, storeVar, Value.cells, storeCells, Addr.add]
  rw [run_store Tryd.prog W ta _ _ (by rfl)]
  simp [ht, hf]

/-- what errors.As leaves: new blocks, and the variable set -/
def asWorld (w : World) (t : Addr) (i : Int) : World :=
  ((((w.alloc (.cells #[.pointer (some t)] 44)).alloc (.cells #[.pointer (some ⟨1, 44, none⟩), .pointer (some ⟨w.heap.size, 0, none⟩), .int .u64 150] 50)).alloc (.cells #[.pointer (some ⟨1, 44, none⟩), .pointer (some ⟨w.heap.size, 0, none⟩), .int .u64 150] 50)).alloc (.cells #[.int .i64 i] 42)).setCell t (.int .i64 i)

set_option maxRecDepth 100000 in
set_option maxHeartbeats 4000000 in
theorem as_hit (i : Int) (t : Addr) (old : Value) (w : World) (hg : w.cell? ⟨0, 0, none⟩ = some (.iface 61 (.agg #[.pointer (some ⟨1, 39, none⟩)]))) (ht0 : w.cell? t = some old) (hf0 : w.frozen? t = false) :
    Calls Tryd.prog 18 #[.iface 42 (.int .i64 i), .iface 44 (.pointer (some t))] w fun ev w' => ev = .returned (.bool true) ∧ w' = asWorld w t i := by
  have h6 := @run_callFunc_extern Tryd.prog 19 _ (fun args => ReflectliteValue.unpack (args.getD 0 (.tuple #[]))) Tryd.func19 (by kernel_rfl) (by kernel_rfl) (by kernel_rfl) (by kernel_rfl)
  have h7 := @run_callFunc_extern Tryd.prog 20 _ (ReflectliteValue.methodAny (ReflectliteValue.valueError "reflectlite.Value.Type" 0) (fun t _ _ _ => ReflectliteType.toType t)) Tryd.func20 (by kernel_rfl) (by kernel_rfl) (by kernel_rfl) (by kernel_rfl)
  have h8 := @run_callFunc_extern Tryd.prog 21 _ (ReflectliteValue.method (ReflectliteValue.valueError "reflectlite.Value.IsNil" 0) ReflectliteValue.isNil) Tryd.func21 (by kernel_rfl) (by kernel_rfl) (by kernel_rfl) (by kernel_rfl)
  have h27 := @run_callFunc_extern Tryd.prog 40 _ (ReflectliteType.abiMethod fun t => do pure (.int .u8 (← Rtype.kind t))) Tryd.func40 (by kernel_rfl) (by kernel_rfl) (by kernel_rfl) (by kernel_rfl)
  have h37 := @run_callFunc_extern Tryd.prog 50 _ (ReflectliteType.method ReflectliteType.elem) Tryd.func50 (by kernel_rfl) (by kernel_rfl) (by kernel_rfl) (by kernel_rfl)
  have h38 := @run_callFunc_extern Tryd.prog 51 _ (ReflectliteType.relation "Implements" ReflectliteType.implements_) Tryd.func51 (by kernel_rfl) (by kernel_rfl) (by kernel_rfl) (by kernel_rfl)
  have h10 := @run_callFunc_extern Tryd.prog 23 _ ReflectliteType.typeOf Tryd.func23 (by kernel_rfl) (by kernel_rfl) (by kernel_rfl) (by kernel_rfl)
  have h35 := @run_callFunc_extern Tryd.prog 48 _ (ReflectliteType.relation "AssignableTo" ReflectliteType.assignableTo) Tryd.func48 (by kernel_rfl) (by kernel_rfl) (by kernel_rfl) (by kernel_rfl)
  have h11 := @run_callFunc_extern Tryd.prog 24 _ (ReflectliteValue.method (ReflectliteValue.valueError "reflectlite.Value.Elem" 0) ReflectliteValue.elem) Tryd.func24 (by kernel_rfl) (by kernel_rfl) (by kernel_rfl) (by kernel_rfl)
  have h12 := @run_callFunc_extern Tryd.prog 25 _ ReflectliteValue.set Tryd.func25 (by kernel_rfl) (by kernel_rfl) (by kernel_rfl) (by kernel_rfl)
  have tO := ea_typeOfE
  have mA := ea_mAssign
  have aE := ea_assignE
  have vE := ea_valueOfE
  have f6 := ea_valueOfP
  have f7 := ea_typeP
  have mK := ea_mKind
  have mE := ea_mElem
  have mI := ea_mImpl
  have kP := ea_kindP
  have kE := ea_kindE
  have eP := ea_elemP
  have iE := ea_implE
  have n8 := ea_isNilP ⟨w.heap.size, 0, none⟩ t ((w.alloc (.cells #[.pointer (some t)] 44)).alloc (.cells #[.pointer (some ⟨1, 44, none⟩), .pointer (some ⟨w.heap.size, 0, none⟩), .int .u64 150] 50)) (by simp)
  have hlt : 0 < w.heap.size := by
    rcases Nat.lt_or_ge 0 w.heap.size with h | h
    · exact h
    · simp [World.cell?, Array.getElem?_eq_none h] at hg
  have hg2 : ((w.alloc (.cells #[.pointer (some t)] 44)).alloc (.cells #[.pointer (some ⟨1, 44, none⟩), .pointer (some ⟨w.heap.size, 0, none⟩), .int .u64 150] 50)).cell? ⟨0, 0, none⟩ = some (.iface 61 (.agg #[.pointer (some ⟨1, 39, none⟩)])) := by
    rw [World.cell?_alloc_lt _ _ ⟨0, 0, none⟩ (by simp), World.cell?_alloc_lt _ _ ⟨0, 0, none⟩ hlt]; exact hg
  have htl : t.block < w.heap.size := by
    rcases Nat.lt_or_ge t.block w.heap.size with h | h
    · exact h
    · simp [World.cell?, Array.getElem?_eq_none h] at ht0
  have el := ea_elemV ⟨w.heap.size, 0, none⟩ t (((w.alloc (.cells #[.pointer (some t)] 44)).alloc (.cells #[.pointer (some ⟨1, 44, none⟩), .pointer (some ⟨w.heap.size, 0, none⟩), .int .u64 150] 50)).alloc (.cells #[.pointer (some ⟨1, 44, none⟩), .pointer (some ⟨w.heap.size, 0, none⟩), .int .u64 150] 50)) (by rw [World.cell?_alloc_lt _ _ ⟨w.heap.size, 0, none⟩ (by simp; omega)]; simp)
  have st := ea_set t ⟨w.heap.size + 1 + 1 + 1, 0, none⟩ i old ((((w.alloc (.cells #[.pointer (some t)] 44)).alloc (.cells #[.pointer (some ⟨1, 44, none⟩), .pointer (some ⟨w.heap.size, 0, none⟩), .int .u64 150] 50)).alloc (.cells #[.pointer (some ⟨1, 44, none⟩), .pointer (some ⟨w.heap.size, 0, none⟩), .int .u64 150] 50)).alloc (.cells #[.int .i64 i] 42))
    (by rw [World.cell?_alloc_at _ _ _ _ (by simp)]; rfl)
    (by rw [World.cell?_alloc_lt _ _ t (by simp; omega), World.cell?_alloc_lt _ _ t (by simp; omega), World.cell?_alloc_lt _ _ t (by simp; omega), World.cell?_alloc_lt _ _ t htl]; exact ht0)
    (by rw [World.frozen?_alloc_old _ _ t (by simp; omega), World.frozen?_alloc_old _ _ t (by simp; omega), World.frozen?_alloc_old _ _ t (by simp; omega), World.frozen?_alloc_old _ _ t (Nat.ne_of_lt htl)]; exact hf0)
  go_enter Tryd.func18, Tryd.ntmps18
  go_wp2
  refine wp_loop_rounds 1 ?_
  rw [rounds_succ]
  go_wp2
  go_ret
  exact ⟨rfl, rfl⟩

end Go.Proofs.YtmddbfcghddacaaDoor

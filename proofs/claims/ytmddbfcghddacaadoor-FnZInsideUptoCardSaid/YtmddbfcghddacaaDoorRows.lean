/-
  NARROWER THAN 'FOR EVERY INPUT', by the rows' own cells (each row's printed sentence says how): FnSteps: laid · FnZInside: laid · FnInsertZ: laid · FnNoRoom: laid · FnPlainZeros: laid · FnRoom: laid.
  DERIVED. THE GIVEN ROWS OF THIS SEAT. 6 by the template 'for every input the law returns true; each argument reads behind the call as it read before'; 0 by the template 'total and deterministic' (their statements: YtmddbfcghddacaaDoorTotals.lean).
  GIVEN WITH THE SEED: the statements are not yours to turn. If you find one false, say at which input.
  Laid BY PROGRAM, IN A SANDBOX (cutbox-rows.mjs): the forced cells as the released guide's own fill.sh prints them over the translation dad579040341aff2… (all of the seat's roots in one cut). By AI agents, Wed Nov 11 2026. No macro, syntax, notation, axiom, sorry.
-/
import Derived.Test.YtmddbfcghddacaaDoorChecked
import GoSem.Claim
import GoSem.ClaimJoined
import GoSem.ClaimMapViews
import Derived.JoinedTies
import Derived.KernelRfl
namespace Go.Proofs.YtmddbfcghddacaaDoor
/- THE CELL 'sum', in the pinned program and in every row, IS THE sha256 OF THE DUMP (.gsa) THAT YtmddbfcghddacaaDoorProg.lean LOADS. Nothing in Lean hashes anything: it is a label: what it is worth is what the hold of that sum in a sandbox is worth. -/
noncomputable def Tryd.pinned : Pinned := { name := "ytmddbfcghddacaadoor", sum := "dad579040341aff272e6bb1701882c7c3b1aaa0deaf332ffe32e2074e2a6a9c1", checked := Tryd.checked }
namespace Rows
def none {H : Type} : Left H := { results := [], args := [] }

/- WHAT THE LISTED PACKAGE-LEVEL VARIABLES READ AS WHEN THE CALL BEGINS. Each datum BY PROGRAM (the guide's laid-datum.mjs) off the statement by which the dump's own 'gosem.cut.vars' lays the variable. In a bare row this is a premise. The card (YtmddbfcghddacaaDoorCards.lean) ties it to the program's text. -/
def laid_errors_errorType {H : Type} : DataW H := .iface "internal/reflectlite.rtype" (.agg [.ptr (.lit (.string [101, 114, 114, 111, 114]))])

/-- 'laws.FnSteps': WHATEVER THE INPUT: true; the input reads as it did. -/
def fnStepsSpec : ChangeSpec := { name := "fnSteps", fn := fun _ => fun
  | [d1, d2] => { results := [.lit (.bool true)], args := [d1, d2] }
  | _ => none }
def fnStepsRow : OpenClaim := { program := "ytmddbfcghddacaadoor", sum := "dad579040341aff272e6bb1701882c7c3b1aaa0deaf332ffe32e2074e2a6a9c1", func := "loop.example/lib-g01422/laws.FnSteps", spec := "fnSteps", inPlace := ["internal/reflectlite.ValueOf", "(internal/reflectlite.Value).Type", "(internal/reflectlite.Value).IsNil", "internal/reflectlite.TypeOf", "(internal/reflectlite.Value).Elem", "(internal/reflectlite.Value).Set"], unfollowed := true, recurses := true, named := ["errors.errorType"], apart := false, laid := [("errors.errorType", laid_errors_errorType)] }
def FnStepsSaid : Prop := fnStepsRow.holds Tryd.pinned (OpenSpec.ofChange fnStepsSpec)

/-- ITS FALSE NEIGHBOUR: 'it returns false'. Refute it at one input. -/
def fnStepsWrong : ChangeSpec := { name := "fnSteps", fn := fun _ => fun
  | [d1, d2] => { results := [.lit (.bool false)], args := [d1, d2] }
  | _ => none }
def FnStepsWrongFalsely : Prop := fnStepsRow.holds Tryd.pinned (OpenSpec.ofChange fnStepsWrong)

/-- 'laws.FnZInside': WHATEVER THE INPUT: true; the input reads as it did. -/
def fnZInsideSpec : ChangeSpec := { name := "fnZInside", fn := fun _ => fun
  | [d1, d2, d3] => { results := [.lit (.bool true)], args := [d1, d2, d3] }
  | _ => none }
def fnZInsideRow : OpenClaim := { program := "ytmddbfcghddacaadoor", sum := "dad579040341aff272e6bb1701882c7c3b1aaa0deaf332ffe32e2074e2a6a9c1", func := "loop.example/lib-g01422/laws.FnZInside", spec := "fnZInside", inPlace := ["internal/reflectlite.ValueOf", "(internal/reflectlite.Value).Type", "(internal/reflectlite.Value).IsNil", "internal/reflectlite.TypeOf", "(internal/reflectlite.Value).Elem", "(internal/reflectlite.Value).Set"], unfollowed := true, recurses := true, named := ["errors.errorType"], apart := false, laid := [("errors.errorType", laid_errors_errorType)] }
def FnZInsideSaid : Prop := fnZInsideRow.holds Tryd.pinned (OpenSpec.ofChange fnZInsideSpec)

/-- ITS FALSE NEIGHBOUR: 'it returns false'. Refute it at one input. -/
def fnZInsideWrong : ChangeSpec := { name := "fnZInside", fn := fun _ => fun
  | [d1, d2, d3] => { results := [.lit (.bool false)], args := [d1, d2, d3] }
  | _ => none }
def FnZInsideWrongFalsely : Prop := fnZInsideRow.holds Tryd.pinned (OpenSpec.ofChange fnZInsideWrong)

/-- 'laws.FnInsertZ': WHATEVER THE INPUT: true; the input reads as it did. -/
def fnInsertZSpec : ChangeSpec := { name := "fnInsertZ", fn := fun _ => fun
  | [d1, d2] => { results := [.lit (.bool true)], args := [d1, d2] }
  | _ => none }
def fnInsertZRow : OpenClaim := { program := "ytmddbfcghddacaadoor", sum := "dad579040341aff272e6bb1701882c7c3b1aaa0deaf332ffe32e2074e2a6a9c1", func := "loop.example/lib-g01422/laws.FnInsertZ", spec := "fnInsertZ", inPlace := ["internal/reflectlite.ValueOf", "(internal/reflectlite.Value).Type", "(internal/reflectlite.Value).IsNil", "internal/reflectlite.TypeOf", "(internal/reflectlite.Value).Elem", "(internal/reflectlite.Value).Set"], unfollowed := true, recurses := true, named := ["errors.errorType"], apart := false, laid := [("errors.errorType", laid_errors_errorType)] }
def FnInsertZSaid : Prop := fnInsertZRow.holds Tryd.pinned (OpenSpec.ofChange fnInsertZSpec)

/-- ITS FALSE NEIGHBOUR: 'it returns false'. Refute it at one input. -/
def fnInsertZWrong : ChangeSpec := { name := "fnInsertZ", fn := fun _ => fun
  | [d1, d2] => { results := [.lit (.bool false)], args := [d1, d2] }
  | _ => none }
def FnInsertZWrongFalsely : Prop := fnInsertZRow.holds Tryd.pinned (OpenSpec.ofChange fnInsertZWrong)

/-- 'laws.FnNoRoom': WHATEVER THE INPUT: true; the input reads as it did. -/
def fnNoRoomSpec : ChangeSpec := { name := "fnNoRoom", fn := fun _ => fun
  | [d1, d2, d3] => { results := [.lit (.bool true)], args := [d1, d2, d3] }
  | _ => none }
def fnNoRoomRow : OpenClaim := { program := "ytmddbfcghddacaadoor", sum := "dad579040341aff272e6bb1701882c7c3b1aaa0deaf332ffe32e2074e2a6a9c1", func := "loop.example/lib-g01422/laws.FnNoRoom", spec := "fnNoRoom", inPlace := ["internal/reflectlite.ValueOf", "(internal/reflectlite.Value).Type", "(internal/reflectlite.Value).IsNil", "internal/reflectlite.TypeOf", "(internal/reflectlite.Value).Elem", "(internal/reflectlite.Value).Set"], unfollowed := true, recurses := true, named := ["errors.errorType"], apart := false, laid := [("errors.errorType", laid_errors_errorType)] }
def FnNoRoomSaid : Prop := fnNoRoomRow.holds Tryd.pinned (OpenSpec.ofChange fnNoRoomSpec)

/-- ITS FALSE NEIGHBOUR: 'it returns false'. Refute it at one input. -/
def fnNoRoomWrong : ChangeSpec := { name := "fnNoRoom", fn := fun _ => fun
  | [d1, d2, d3] => { results := [.lit (.bool false)], args := [d1, d2, d3] }
  | _ => none }
def FnNoRoomWrongFalsely : Prop := fnNoRoomRow.holds Tryd.pinned (OpenSpec.ofChange fnNoRoomWrong)

/-- 'laws.FnPlainZeros': WHATEVER THE INPUT: true; the input reads as it did. -/
def fnPlainZerosSpec : ChangeSpec := { name := "fnPlainZeros", fn := fun _ => fun
  | [d] => { results := [.lit (.bool true)], args := [d] }
  | _ => none }
def fnPlainZerosRow : OpenClaim := { program := "ytmddbfcghddacaadoor", sum := "dad579040341aff272e6bb1701882c7c3b1aaa0deaf332ffe32e2074e2a6a9c1", func := "loop.example/lib-g01422/laws.FnPlainZeros", spec := "fnPlainZeros", inPlace := ["internal/reflectlite.ValueOf", "(internal/reflectlite.Value).Type", "(internal/reflectlite.Value).IsNil", "internal/reflectlite.TypeOf", "(internal/reflectlite.Value).Elem", "(internal/reflectlite.Value).Set"], unfollowed := true, recurses := true, named := ["errors.errorType"], apart := false, laid := [("errors.errorType", laid_errors_errorType)] }
def FnPlainZerosSaid : Prop := fnPlainZerosRow.holds Tryd.pinned (OpenSpec.ofChange fnPlainZerosSpec)

/-- ITS FALSE NEIGHBOUR: 'it returns false'. Refute it at one input. -/
def fnPlainZerosWrong : ChangeSpec := { name := "fnPlainZeros", fn := fun _ => fun
  | [d] => { results := [.lit (.bool false)], args := [d] }
  | _ => none }
def FnPlainZerosWrongFalsely : Prop := fnPlainZerosRow.holds Tryd.pinned (OpenSpec.ofChange fnPlainZerosWrong)

/-- 'laws.FnRoom': WHATEVER THE INPUT: true; the input reads as it did. -/
def fnRoomSpec : ChangeSpec := { name := "fnRoom", fn := fun _ => fun
  | [d1, d2] => { results := [.lit (.bool true)], args := [d1, d2] }
  | _ => none }
def fnRoomRow : OpenClaim := { program := "ytmddbfcghddacaadoor", sum := "dad579040341aff272e6bb1701882c7c3b1aaa0deaf332ffe32e2074e2a6a9c1", func := "loop.example/lib-g01422/laws.FnRoom", spec := "fnRoom", inPlace := ["internal/reflectlite.ValueOf", "(internal/reflectlite.Value).Type", "(internal/reflectlite.Value).IsNil", "internal/reflectlite.TypeOf", "(internal/reflectlite.Value).Elem", "(internal/reflectlite.Value).Set"], unfollowed := true, recurses := true, named := ["errors.errorType"], apart := false, laid := [("errors.errorType", laid_errors_errorType)] }
def FnRoomSaid : Prop := fnRoomRow.holds Tryd.pinned (OpenSpec.ofChange fnRoomSpec)

/-- ITS FALSE NEIGHBOUR: 'it returns false'. Refute it at one input. -/
def fnRoomWrong : ChangeSpec := { name := "fnRoom", fn := fun _ => fun
  | [d1, d2] => { results := [.lit (.bool false)], args := [d1, d2] }
  | _ => none }
def FnRoomWrongFalsely : Prop := fnRoomRow.holds Tryd.pinned (OpenSpec.ofChange fnRoomWrong)

/- THE SECOND FORM. 'bulk': how many values and letters a reading holds, each counted each time it is reached (what is shared counts as often as it is met; a slice's spare places count too). A statement '..UptoSaid' is the law's where the arguments, and the package variables that the reading takes, are together of bulk at most 1048576: NARROWER than '..Said'. Prove '..Said' where nothing that the law and all that it calls make is longer than what came in: it says more and counts as full. Else prove '..UptoSaid'. A law counts once. -/
mutual
def uptoBulk {H : Type} : DataW H → Nat
  | .lit (.string bytes) => bytes.length + 1
  | .lit _ => 1
  | .nil => 1
  | .ptr d => uptoBulk d + 1
  | .slice elems spare => uptoBulkAll elems + uptoBulkAll spare + 1
  | .agg parts => uptoBulkAll parts + 1
  | .iface _ d => uptoBulk d + 1
  | .map entries => uptoBulkEntries entries + 1
  | .held _ => 1
def uptoBulkAll {H : Type} : List (DataW H) → Nat
  | [] => 0
  | d :: r => uptoBulk d + uptoBulkAll r
def uptoBulkEntries {H : Type} : List (Lit × DataW H) → Nat
  | [] => 0
  | x :: r => uptoBulkEntry x + uptoBulkEntries r
def uptoBulkEntry {H : Type} : Lit × DataW H → Nat
  | (.string bytes, d) => bytes.length + uptoBulk d + 1
  | (_, d) => uptoBulk d + 1
 end
def uptoSmall : (H : Type) → List (DataW H) → Bool := fun _ ds => decide (uptoBulkAll ds ≤ 1048576)
def OpenSpec.upto (s : _root_.Go.ChangeSpec) : _root_.Go.OpenSpec := { _root_.Go.OpenSpec.ofChange s with cond := some uptoSmall }

/-- 'laws.FnSteps', WHERE WHAT IT READS IS OF BULK AT MOST 1048576: true; the input reads as it did. -/
def fnStepsUptoRow : OpenClaim := { program := "ytmddbfcghddacaadoor", sum := "dad579040341aff272e6bb1701882c7c3b1aaa0deaf332ffe32e2074e2a6a9c1", func := "loop.example/lib-g01422/laws.FnSteps", spec := "fnSteps", inPlace := ["internal/reflectlite.ValueOf", "(internal/reflectlite.Value).Type", "(internal/reflectlite.Value).IsNil", "internal/reflectlite.TypeOf", "(internal/reflectlite.Value).Elem", "(internal/reflectlite.Value).Set"], unfollowed := true, recurses := true, named := ["errors.errorType"], apart := false, laid := [("errors.errorType", laid_errors_errorType)], narrowed := true }
def FnStepsUptoSaid : Prop := fnStepsUptoRow.holds Tryd.pinned (OpenSpec.upto fnStepsSpec)

/-- 'laws.FnZInside', WHERE WHAT IT READS IS OF BULK AT MOST 1048576: true; the input reads as it did. -/
def fnZInsideUptoRow : OpenClaim := { program := "ytmddbfcghddacaadoor", sum := "dad579040341aff272e6bb1701882c7c3b1aaa0deaf332ffe32e2074e2a6a9c1", func := "loop.example/lib-g01422/laws.FnZInside", spec := "fnZInside", inPlace := ["internal/reflectlite.ValueOf", "(internal/reflectlite.Value).Type", "(internal/reflectlite.Value).IsNil", "internal/reflectlite.TypeOf", "(internal/reflectlite.Value).Elem", "(internal/reflectlite.Value).Set"], unfollowed := true, recurses := true, named := ["errors.errorType"], apart := false, laid := [("errors.errorType", laid_errors_errorType)], narrowed := true }
def FnZInsideUptoSaid : Prop := fnZInsideUptoRow.holds Tryd.pinned (OpenSpec.upto fnZInsideSpec)

/-- 'laws.FnInsertZ', WHERE WHAT IT READS IS OF BULK AT MOST 1048576: true; the input reads as it did. -/
def fnInsertZUptoRow : OpenClaim := { program := "ytmddbfcghddacaadoor", sum := "dad579040341aff272e6bb1701882c7c3b1aaa0deaf332ffe32e2074e2a6a9c1", func := "loop.example/lib-g01422/laws.FnInsertZ", spec := "fnInsertZ", inPlace := ["internal/reflectlite.ValueOf", "(internal/reflectlite.Value).Type", "(internal/reflectlite.Value).IsNil", "internal/reflectlite.TypeOf", "(internal/reflectlite.Value).Elem", "(internal/reflectlite.Value).Set"], unfollowed := true, recurses := true, named := ["errors.errorType"], apart := false, laid := [("errors.errorType", laid_errors_errorType)], narrowed := true }
def FnInsertZUptoSaid : Prop := fnInsertZUptoRow.holds Tryd.pinned (OpenSpec.upto fnInsertZSpec)

/-- 'laws.FnNoRoom', WHERE WHAT IT READS IS OF BULK AT MOST 1048576: true; the input reads as it did. -/
def fnNoRoomUptoRow : OpenClaim := { program := "ytmddbfcghddacaadoor", sum := "dad579040341aff272e6bb1701882c7c3b1aaa0deaf332ffe32e2074e2a6a9c1", func := "loop.example/lib-g01422/laws.FnNoRoom", spec := "fnNoRoom", inPlace := ["internal/reflectlite.ValueOf", "(internal/reflectlite.Value).Type", "(internal/reflectlite.Value).IsNil", "internal/reflectlite.TypeOf", "(internal/reflectlite.Value).Elem", "(internal/reflectlite.Value).Set"], unfollowed := true, recurses := true, named := ["errors.errorType"], apart := false, laid := [("errors.errorType", laid_errors_errorType)], narrowed := true }
def FnNoRoomUptoSaid : Prop := fnNoRoomUptoRow.holds Tryd.pinned (OpenSpec.upto fnNoRoomSpec)

/-- 'laws.FnPlainZeros', WHERE WHAT IT READS IS OF BULK AT MOST 1048576: true; the input reads as it did. -/
def fnPlainZerosUptoRow : OpenClaim := { program := "ytmddbfcghddacaadoor", sum := "dad579040341aff272e6bb1701882c7c3b1aaa0deaf332ffe32e2074e2a6a9c1", func := "loop.example/lib-g01422/laws.FnPlainZeros", spec := "fnPlainZeros", inPlace := ["internal/reflectlite.ValueOf", "(internal/reflectlite.Value).Type", "(internal/reflectlite.Value).IsNil", "internal/reflectlite.TypeOf", "(internal/reflectlite.Value).Elem", "(internal/reflectlite.Value).Set"], unfollowed := true, recurses := true, named := ["errors.errorType"], apart := false, laid := [("errors.errorType", laid_errors_errorType)], narrowed := true }
def FnPlainZerosUptoSaid : Prop := fnPlainZerosUptoRow.holds Tryd.pinned (OpenSpec.upto fnPlainZerosSpec)

/-- 'laws.FnRoom', WHERE WHAT IT READS IS OF BULK AT MOST 1048576: true; the input reads as it did. -/
def fnRoomUptoRow : OpenClaim := { program := "ytmddbfcghddacaadoor", sum := "dad579040341aff272e6bb1701882c7c3b1aaa0deaf332ffe32e2074e2a6a9c1", func := "loop.example/lib-g01422/laws.FnRoom", spec := "fnRoom", inPlace := ["internal/reflectlite.ValueOf", "(internal/reflectlite.Value).Type", "(internal/reflectlite.Value).IsNil", "internal/reflectlite.TypeOf", "(internal/reflectlite.Value).Elem", "(internal/reflectlite.Value).Set"], unfollowed := true, recurses := true, named := ["errors.errorType"], apart := false, laid := [("errors.errorType", laid_errors_errorType)], narrowed := true }
def FnRoomUptoSaid : Prop := fnRoomUptoRow.holds Tryd.pinned (OpenSpec.upto fnRoomSpec)

end Rows
end Go.Proofs.YtmddbfcghddacaaDoor

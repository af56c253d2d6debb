/-
  No cell of these rows narrows 'for every input' (looked for: loops, veiled, ifaces, maps, wideKeys, modest, calm, conditions, laid).
  DERIVED. THE GIVEN ROWS OF THIS SEAT. 6 by the template 'for every input the law returns true; each argument reads behind the call as it read before'; 0 by the template 'total and deterministic' (their statements: YtemojkjcnkbpoaaGreatTotals.lean).
  GIVEN WITH THE SEED: the statements are not yours to turn. If you find one false, say at which input.
  Laid BY PROGRAM, IN A SANDBOX (cutbox-rows.mjs): the forced cells as the released guide's own fill.sh prints them over the translation bf3c87cf0910158f… (all of the seat's roots in one cut). By AI agents, Wed Nov 11 2026. No macro, syntax, notation, axiom, sorry.
-/
import Derived.Test.YtemojkjcnkbpoaaGreatChecked
import GoSem.Claim
import GoSem.ClaimJoined
import GoSem.ClaimMapViews
import Derived.JoinedTies
import Derived.KernelRfl
namespace Go.Proofs.YtemojkjcnkbpoaaGreat
/- THE CELL 'sum', in the pinned program and in every row, IS THE sha256 OF THE DUMP (.gsa) THAT YtemojkjcnkbpoaaGreatProg.lean LOADS. Nothing in Lean hashes anything: it is a label: what it is worth is what the hold of that sum in a sandbox is worth. -/
noncomputable def Tryz.pinned : Pinned := { name := "ytemojkjcnkbpoaagreat", sum := "bf3c87cf0910158fa794911cf9dea29ab0a826bfa8d91b73656531eb52cfee2b", checked := Tryz.checked }
namespace Rows
def none {H : Type} : Left H := { results := [], args := [] }

/-- 'laws.FnStateSizes': WHATEVER THE INPUT: true; the input reads as it did. -/
def fnStateSizesSpec : ChangeSpec := { name := "fnStateSizes", fn := fun _ => fun
  | [d1, d2, d3] => { results := [.lit (.bool true)], args := [d1, d2, d3] }
  | _ => none }
def fnStateSizesRow : OpenClaim := { program := "ytemojkjcnkbpoaagreat", sum := "bf3c87cf0910158fa794911cf9dea29ab0a826bfa8d91b73656531eb52cfee2b", func := "loop.example/lib-g01422/laws.FnStateSizes", spec := "fnStateSizes", unfollowed := true, recurses := true, apart := false }
def FnStateSizesSaid : Prop := fnStateSizesRow.holds Tryz.pinned (OpenSpec.ofChange fnStateSizesSpec)

/-- ITS FALSE NEIGHBOUR: 'it returns false'. Refute it at one input. -/
def fnStateSizesWrong : ChangeSpec := { name := "fnStateSizes", fn := fun _ => fun
  | [d1, d2, d3] => { results := [.lit (.bool false)], args := [d1, d2, d3] }
  | _ => none }
def FnStateSizesWrongFalsely : Prop := fnStateSizesRow.holds Tryz.pinned (OpenSpec.ofChange fnStateSizesWrong)

/-- 'laws.FnStateEnds': WHATEVER THE INPUT: true; the input reads as it did. -/
def fnStateEndsSpec : ChangeSpec := { name := "fnStateEnds", fn := fun _ => fun
  | [d1, d2] => { results := [.lit (.bool true)], args := [d1, d2] }
  | _ => none }
def fnStateEndsRow : OpenClaim := { program := "ytemojkjcnkbpoaagreat", sum := "bf3c87cf0910158fa794911cf9dea29ab0a826bfa8d91b73656531eb52cfee2b", func := "loop.example/lib-g01422/laws.FnStateEnds", spec := "fnStateEnds", unfollowed := true, recurses := true, apart := false }
def FnStateEndsSaid : Prop := fnStateEndsRow.holds Tryz.pinned (OpenSpec.ofChange fnStateEndsSpec)

/-- ITS FALSE NEIGHBOUR: 'it returns false'. Refute it at one input. -/
def fnStateEndsWrong : ChangeSpec := { name := "fnStateEnds", fn := fun _ => fun
  | [d1, d2] => { results := [.lit (.bool false)], args := [d1, d2] }
  | _ => none }
def FnStateEndsWrongFalsely : Prop := fnStateEndsRow.holds Tryz.pinned (OpenSpec.ofChange fnStateEndsWrong)

/-- 'laws.FnStateOfSum': WHATEVER THE INPUT: true; the input reads as it did. -/
def fnStateOfSumSpec : ChangeSpec := { name := "fnStateOfSum", fn := fun _ => fun
  | [d1, d2, d3] => { results := [.lit (.bool true)], args := [d1, d2, d3] }
  | _ => none }
def fnStateOfSumRow : OpenClaim := { program := "ytemojkjcnkbpoaagreat", sum := "bf3c87cf0910158fa794911cf9dea29ab0a826bfa8d91b73656531eb52cfee2b", func := "loop.example/lib-g01422/laws.FnStateOfSum", spec := "fnStateOfSum", unfollowed := true, recurses := true, apart := false }
def FnStateOfSumSaid : Prop := fnStateOfSumRow.holds Tryz.pinned (OpenSpec.ofChange fnStateOfSumSpec)

/-- ITS FALSE NEIGHBOUR: 'it returns false'. Refute it at one input. -/
def fnStateOfSumWrong : ChangeSpec := { name := "fnStateOfSum", fn := fun _ => fun
  | [d1, d2, d3] => { results := [.lit (.bool false)], args := [d1, d2, d3] }
  | _ => none }
def FnStateOfSumWrongFalsely : Prop := fnStateOfSumRow.holds Tryz.pinned (OpenSpec.ofChange fnStateOfSumWrong)

/-- 'laws.FnShortState': WHATEVER THE INPUT: true; the input reads as it did. -/
def fnShortStateSpec : ChangeSpec := { name := "fnShortState", fn := fun _ => fun
  | [d1, d2, d3, d4, d5] => { results := [.lit (.bool true)], args := [d1, d2, d3, d4, d5] }
  | _ => none }
def fnShortStateRow : OpenClaim := { program := "ytemojkjcnkbpoaagreat", sum := "bf3c87cf0910158fa794911cf9dea29ab0a826bfa8d91b73656531eb52cfee2b", func := "loop.example/lib-g01422/laws.FnShortState", spec := "fnShortState", unfollowed := true, recurses := true, apart := false }
def FnShortStateSaid : Prop := fnShortStateRow.holds Tryz.pinned (OpenSpec.ofChange fnShortStateSpec)

/-- ITS FALSE NEIGHBOUR: 'it returns false'. Refute it at one input. -/
def fnShortStateWrong : ChangeSpec := { name := "fnShortState", fn := fun _ => fun
  | [d1, d2, d3, d4, d5] => { results := [.lit (.bool false)], args := [d1, d2, d3, d4, d5] }
  | _ => none }
def FnShortStateWrongFalsely : Prop := fnShortStateRow.holds Tryz.pinned (OpenSpec.ofChange fnShortStateWrong)

/-- 'laws.FnStrangeState': WHATEVER THE INPUT: true; the input reads as it did. -/
def fnStrangeStateSpec : ChangeSpec := { name := "fnStrangeState", fn := fun _ => fun
  | [d1, d2, d3, d4, d5] => { results := [.lit (.bool true)], args := [d1, d2, d3, d4, d5] }
  | _ => none }
def fnStrangeStateRow : OpenClaim := { program := "ytemojkjcnkbpoaagreat", sum := "bf3c87cf0910158fa794911cf9dea29ab0a826bfa8d91b73656531eb52cfee2b", func := "loop.example/lib-g01422/laws.FnStrangeState", spec := "fnStrangeState", unfollowed := true, recurses := true, apart := false }
def FnStrangeStateSaid : Prop := fnStrangeStateRow.holds Tryz.pinned (OpenSpec.ofChange fnStrangeStateSpec)

/-- ITS FALSE NEIGHBOUR: 'it returns false'. Refute it at one input. -/
def fnStrangeStateWrong : ChangeSpec := { name := "fnStrangeState", fn := fun _ => fun
  | [d1, d2, d3, d4, d5] => { results := [.lit (.bool false)], args := [d1, d2, d3, d4, d5] }
  | _ => none }
def FnStrangeStateWrongFalsely : Prop := fnStrangeStateRow.holds Tryz.pinned (OpenSpec.ofChange fnStrangeStateWrong)

/-- 'laws.FnSumOfText': WHATEVER THE INPUT: true; the input reads as it did. -/
def fnSumOfTextSpec : ChangeSpec := { name := "fnSumOfText", fn := fun _ => fun
  | [d1, d2, d3] => { results := [.lit (.bool true)], args := [d1, d2, d3] }
  | _ => none }
def fnSumOfTextRow : OpenClaim := { program := "ytemojkjcnkbpoaagreat", sum := "bf3c87cf0910158fa794911cf9dea29ab0a826bfa8d91b73656531eb52cfee2b", func := "loop.example/lib-g01422/laws.FnSumOfText", spec := "fnSumOfText", unfollowed := true, recurses := true, apart := false }
def FnSumOfTextSaid : Prop := fnSumOfTextRow.holds Tryz.pinned (OpenSpec.ofChange fnSumOfTextSpec)

/-- ITS FALSE NEIGHBOUR: 'it returns false'. Refute it at one input. -/
def fnSumOfTextWrong : ChangeSpec := { name := "fnSumOfText", fn := fun _ => fun
  | [d1, d2, d3] => { results := [.lit (.bool false)], args := [d1, d2, d3] }
  | _ => none }
def FnSumOfTextWrongFalsely : Prop := fnSumOfTextRow.holds Tryz.pinned (OpenSpec.ofChange fnSumOfTextWrong)

/- THE SECOND FORM. 'bulk': how many values and letters a reading holds, each counted each time it is reached (what is shared counts as often as it is met; a slice's spare places count too). A statement '..UptoSaid' is the law's where the arguments, and the package variables that the reading takes, are together of bulk at most 1048576: NARROWER than '..Said'. Prove '..Said' where nothing that the law and all that it calls make is longer than what came in: it says more and counts as full. Else prove '..UptoSaid'. A law counts once. -/
mutual
def uptoBulk {H : Type} : DataW H → Nat
  | .lit (.string bytes) => bytes.length + 1
  | .lit _ => 1
  | .nil => 1
  | .ptr d => uptoBulk d + 1
  | .slice elems spare => uptoBulkAll elems + uptoBulkAll spare + 1
  | .agg parts => uptoBulkAll parts + 1
  | .iface _ d => uptoBulk d + 1
  | .map entries => uptoBulkEntries entries + 1
  | .held _ => 1
def uptoBulkAll {H : Type} : List (DataW H) → Nat
  | [] => 0
  | d :: r => uptoBulk d + uptoBulkAll r
def uptoBulkEntries {H : Type} : List (Lit × DataW H) → Nat
  | [] => 0
  | x :: r => uptoBulkEntry x + uptoBulkEntries r
def uptoBulkEntry {H : Type} : Lit × DataW H → Nat
  | (.string bytes, d) => bytes.length + uptoBulk d + 1
  | (_, d) => uptoBulk d + 1
 end
def uptoSmall : (H : Type) → List (DataW H) → Bool := fun _ ds => decide (uptoBulkAll ds ≤ 1048576)
def OpenSpec.upto (s : _root_.Go.ChangeSpec) : _root_.Go.OpenSpec := { _root_.Go.OpenSpec.ofChange s with cond := some uptoSmall }

/-- 'laws.FnStateSizes', WHERE WHAT IT READS IS OF BULK AT MOST 1048576: true; the input reads as it did. -/
def fnStateSizesUptoRow : OpenClaim := { program := "ytemojkjcnkbpoaagreat", sum := "bf3c87cf0910158fa794911cf9dea29ab0a826bfa8d91b73656531eb52cfee2b", func := "loop.example/lib-g01422/laws.FnStateSizes", spec := "fnStateSizes", unfollowed := true, recurses := true, apart := false, narrowed := true }
def FnStateSizesUptoSaid : Prop := fnStateSizesUptoRow.holds Tryz.pinned (OpenSpec.upto fnStateSizesSpec)

/-- 'laws.FnStateEnds', WHERE WHAT IT READS IS OF BULK AT MOST 1048576: true; the input reads as it did. -/
def fnStateEndsUptoRow : OpenClaim := { program := "ytemojkjcnkbpoaagreat", sum := "bf3c87cf0910158fa794911cf9dea29ab0a826bfa8d91b73656531eb52cfee2b", func := "loop.example/lib-g01422/laws.FnStateEnds", spec := "fnStateEnds", unfollowed := true, recurses := true, apart := false, narrowed := true }
def FnStateEndsUptoSaid : Prop := fnStateEndsUptoRow.holds Tryz.pinned (OpenSpec.upto fnStateEndsSpec)

/-- 'laws.FnStateOfSum', WHERE WHAT IT READS IS OF BULK AT MOST 1048576: true; the input reads as it did. -/
def fnStateOfSumUptoRow : OpenClaim := { program := "ytemojkjcnkbpoaagreat", sum := "bf3c87cf0910158fa794911cf9dea29ab0a826bfa8d91b73656531eb52cfee2b", func := "loop.example/lib-g01422/laws.FnStateOfSum", spec := "fnStateOfSum", unfollowed := true, recurses := true, apart := false, narrowed := true }
def FnStateOfSumUptoSaid : Prop := fnStateOfSumUptoRow.holds Tryz.pinned (OpenSpec.upto fnStateOfSumSpec)

/-- 'laws.FnShortState', WHERE WHAT IT READS IS OF BULK AT MOST 1048576: true; the input reads as it did. -/
def fnShortStateUptoRow : OpenClaim := { program := "ytemojkjcnkbpoaagreat", sum := "bf3c87cf0910158fa794911cf9dea29ab0a826bfa8d91b73656531eb52cfee2b", func := "loop.example/lib-g01422/laws.FnShortState", spec := "fnShortState", unfollowed := true, recurses := true, apart := false, narrowed := true }
def FnShortStateUptoSaid : Prop := fnShortStateUptoRow.holds Tryz.pinned (OpenSpec.upto fnShortStateSpec)

/-- 'laws.FnStrangeState', WHERE WHAT IT READS IS OF BULK AT MOST 1048576: true; the input reads as it did. -/
def fnStrangeStateUptoRow : OpenClaim := { program := "ytemojkjcnkbpoaagreat", sum := "bf3c87cf0910158fa794911cf9dea29ab0a826bfa8d91b73656531eb52cfee2b", func := "loop.example/lib-g01422/laws.FnStrangeState", spec := "fnStrangeState", unfollowed := true, recurses := true, apart := false, narrowed := true }
def FnStrangeStateUptoSaid : Prop := fnStrangeStateUptoRow.holds Tryz.pinned (OpenSpec.upto fnStrangeStateSpec)

/-- 'laws.FnSumOfText', WHERE WHAT IT READS IS OF BULK AT MOST 1048576: true; the input reads as it did. -/
def fnSumOfTextUptoRow : OpenClaim := { program := "ytemojkjcnkbpoaagreat", sum := "bf3c87cf0910158fa794911cf9dea29ab0a826bfa8d91b73656531eb52cfee2b", func := "loop.example/lib-g01422/laws.FnSumOfText", spec := "fnSumOfText", unfollowed := true, recurses := true, apart := false, narrowed := true }
def FnSumOfTextUptoSaid : Prop := fnSumOfTextUptoRow.holds Tryz.pinned (OpenSpec.upto fnSumOfTextSpec)

end Rows
end Go.Proofs.YtemojkjcnkbpoaaGreat

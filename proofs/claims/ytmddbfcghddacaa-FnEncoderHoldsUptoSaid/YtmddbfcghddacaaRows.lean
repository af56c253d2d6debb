/-
  No cell of these rows narrows 'for every input' (looked for: loops, veiled, ifaces, maps, wideKeys, modest, calm, conditions, laid).
  DERIVED. THE GIVEN ROWS OF THIS SEAT. 3 by the template 'for every input the law returns true; each argument reads behind the call as it read before'; 0 by the template 'total and deterministic' (their statements: YtmddbfcghddacaaTotals.lean).
  GIVEN WITH THE SEED: the statements are not yours to turn. If you find one false, say at which input.
  Laid BY PROGRAM, IN A SANDBOX (cutbox-rows.mjs): the forced cells as the released guide's own fill.sh prints them over the translation 31050620c2e4a90a… (all of the seat's roots in one cut). By AI agents, Wed Nov 11 2026. No macro, syntax, notation, axiom, sorry.
-/
import Derived.Test.YtmddbfcghddacaaChecked
import GoSem.Claim
import GoSem.ClaimJoined
import GoSem.ClaimMapViews
import Derived.JoinedTies
import Derived.KernelRfl
namespace Go.Proofs.Ytmddbfcghddacaa
/- THE CELL 'sum', in the pinned program and in every row, IS THE sha256 OF THE DUMP (.gsa) THAT YtmddbfcghddacaaProg.lean LOADS. Nothing in Lean hashes anything: it is a label: what it is worth is what the hold of that sum in a sandbox is worth. -/
noncomputable def Try.pinned : Pinned := { name := "ytmddbfcghddacaa", sum := "31050620c2e4a90abfea9aa1c620c7a8475a9fbb0bb169f2c6070268fa325d3c", checked := Try.checked }
namespace Rows
def none {H : Type} : Left H := { results := [], args := [] }

/-- 'laws.FnEncoderGrows': WHATEVER THE INPUT: true; the input reads as it did. -/
def fnEncoderGrowsSpec : ChangeSpec := { name := "fnEncoderGrows", fn := fun _ => fun
  | [d1, d2] => { results := [.lit (.bool true)], args := [d1, d2] }
  | _ => none }
def fnEncoderGrowsRow : OpenClaim := { program := "ytmddbfcghddacaa", sum := "31050620c2e4a90abfea9aa1c620c7a8475a9fbb0bb169f2c6070268fa325d3c", func := "loop.example/lib-g01422/laws.FnEncoderGrows", spec := "fnEncoderGrows", unfollowed := true, recurses := true, apart := false }
def FnEncoderGrowsSaid : Prop := fnEncoderGrowsRow.holds Try.pinned (OpenSpec.ofChange fnEncoderGrowsSpec)

/-- ITS FALSE NEIGHBOUR: 'it returns false'. Refute it at one input. -/
def fnEncoderGrowsWrong : ChangeSpec := { name := "fnEncoderGrows", fn := fun _ => fun
  | [d1, d2] => { results := [.lit (.bool false)], args := [d1, d2] }
  | _ => none }
def FnEncoderGrowsWrongFalsely : Prop := fnEncoderGrowsRow.holds Try.pinned (OpenSpec.ofChange fnEncoderGrowsWrong)

/-- 'laws.FnDigitSum': WHATEVER THE INPUT: true; the input reads as it did. -/
def fnDigitSumSpec : ChangeSpec := { name := "fnDigitSum", fn := fun _ => fun
  | [d1, d2, d3, d4] => { results := [.lit (.bool true)], args := [d1, d2, d3, d4] }
  | _ => none }
def fnDigitSumRow : OpenClaim := { program := "ytmddbfcghddacaa", sum := "31050620c2e4a90abfea9aa1c620c7a8475a9fbb0bb169f2c6070268fa325d3c", func := "loop.example/lib-g01422/laws.FnDigitSum", spec := "fnDigitSum", apart := false }
def FnDigitSumSaid : Prop := fnDigitSumRow.holds Try.pinned (OpenSpec.ofChange fnDigitSumSpec)

/-- ITS FALSE NEIGHBOUR: 'it returns false'. Refute it at one input. -/
def fnDigitSumWrong : ChangeSpec := { name := "fnDigitSum", fn := fun _ => fun
  | [d1, d2, d3, d4] => { results := [.lit (.bool false)], args := [d1, d2, d3, d4] }
  | _ => none }
def FnDigitSumWrongFalsely : Prop := fnDigitSumRow.holds Try.pinned (OpenSpec.ofChange fnDigitSumWrong)

/-- 'laws.FnEncoderHolds': WHATEVER THE INPUT: true; the input reads as it did. -/
def fnEncoderHoldsSpec : ChangeSpec := { name := "fnEncoderHolds", fn := fun _ => fun
  | [d1, d2] => { results := [.lit (.bool true)], args := [d1, d2] }
  | _ => none }
def fnEncoderHoldsRow : OpenClaim := { program := "ytmddbfcghddacaa", sum := "31050620c2e4a90abfea9aa1c620c7a8475a9fbb0bb169f2c6070268fa325d3c", func := "loop.example/lib-g01422/laws.FnEncoderHolds", spec := "fnEncoderHolds", unfollowed := true, recurses := true, apart := false }
def FnEncoderHoldsSaid : Prop := fnEncoderHoldsRow.holds Try.pinned (OpenSpec.ofChange fnEncoderHoldsSpec)

/-- ITS FALSE NEIGHBOUR: 'it returns false'. Refute it at one input. -/
def fnEncoderHoldsWrong : ChangeSpec := { name := "fnEncoderHolds", fn := fun _ => fun
  | [d1, d2] => { results := [.lit (.bool false)], args := [d1, d2] }
  | _ => none }
def FnEncoderHoldsWrongFalsely : Prop := fnEncoderHoldsRow.holds Try.pinned (OpenSpec.ofChange fnEncoderHoldsWrong)

/- THE SECOND FORM. 'bulk': how many values and letters a reading holds, each counted each time it is reached (what is shared counts as often as it is met; a slice's spare places count too). A statement '..UptoSaid' is the law's where the arguments, and the package variables that the reading takes, are together of bulk at most 1048576: NARROWER than '..Said'. Prove '..Said' where nothing that the law and all that it calls make is longer than what came in: it says more and counts as full. Else prove '..UptoSaid'. A law counts once. -/
mutual
def uptoBulk {H : Type} : DataW H → Nat
  | .lit (.string bytes) => bytes.length + 1
  | .lit _ => 1
  | .nil => 1
  | .ptr d => uptoBulk d + 1
  | .slice elems spare => uptoBulkAll elems + uptoBulkAll spare + 1
  | .agg parts => uptoBulkAll parts + 1
  | .iface _ d => uptoBulk d + 1
  | .map entries => uptoBulkEntries entries + 1
  | .held _ => 1
def uptoBulkAll {H : Type} : List (DataW H) → Nat
  | [] => 0
  | d :: r => uptoBulk d + uptoBulkAll r
def uptoBulkEntries {H : Type} : List (Lit × DataW H) → Nat
  | [] => 0
  | x :: r => uptoBulkEntry x + uptoBulkEntries r
def uptoBulkEntry {H : Type} : Lit × DataW H → Nat
  | (.string bytes, d) => bytes.length + uptoBulk d + 1
  | (_, d) => uptoBulk d + 1
 end
def uptoSmall : (H : Type) → List (DataW H) → Bool := fun _ ds => decide (uptoBulkAll ds ≤ 1048576)
def OpenSpec.upto (s : _root_.Go.ChangeSpec) : _root_.Go.OpenSpec := { _root_.Go.OpenSpec.ofChange s with cond := some uptoSmall }

/-- 'laws.FnEncoderGrows', WHERE WHAT IT READS IS OF BULK AT MOST 1048576: true; the input reads as it did. -/
def fnEncoderGrowsUptoRow : OpenClaim := { program := "ytmddbfcghddacaa", sum := "31050620c2e4a90abfea9aa1c620c7a8475a9fbb0bb169f2c6070268fa325d3c", func := "loop.example/lib-g01422/laws.FnEncoderGrows", spec := "fnEncoderGrows", unfollowed := true, recurses := true, apart := false, narrowed := true }
def FnEncoderGrowsUptoSaid : Prop := fnEncoderGrowsUptoRow.holds Try.pinned (OpenSpec.upto fnEncoderGrowsSpec)

/-- 'laws.FnDigitSum', WHERE WHAT IT READS IS OF BULK AT MOST 1048576: true; the input reads as it did. -/
def fnDigitSumUptoRow : OpenClaim := { program := "ytmddbfcghddacaa", sum := "31050620c2e4a90abfea9aa1c620c7a8475a9fbb0bb169f2c6070268fa325d3c", func := "loop.example/lib-g01422/laws.FnDigitSum", spec := "fnDigitSum", apart := false, narrowed := true }
def FnDigitSumUptoSaid : Prop := fnDigitSumUptoRow.holds Try.pinned (OpenSpec.upto fnDigitSumSpec)

/-- 'laws.FnEncoderHolds', WHERE WHAT IT READS IS OF BULK AT MOST 1048576: true; the input reads as it did. -/
def fnEncoderHoldsUptoRow : OpenClaim := { program := "ytmddbfcghddacaa", sum := "31050620c2e4a90abfea9aa1c620c7a8475a9fbb0bb169f2c6070268fa325d3c", func := "loop.example/lib-g01422/laws.FnEncoderHolds", spec := "fnEncoderHolds", unfollowed := true, recurses := true, apart := false, narrowed := true }
def FnEncoderHoldsUptoSaid : Prop := fnEncoderHoldsUptoRow.holds Try.pinned (OpenSpec.upto fnEncoderHoldsSpec)

end Rows
end Go.Proofs.Ytmddbfcghddacaa

/-
  No cell of these rows narrows 'for every input' (looked for: loops, veiled, ifaces, maps, wideKeys, modest, calm, conditions, laid).
  DERIVED. THE GIVEN ROWS OF THIS SEAT. 14 by the template 'for every input the law returns true; each argument reads behind the call as it read before'; 0 by the template 'total and deterministic' (their statements: YtaplmdbcjckbkaaTotals.lean).
  GIVEN WITH THE SEED: the statements are not yours to turn. If you find one false, say at which input.
  Laid BY PROGRAM, IN A SANDBOX (cutbox-rows.mjs): the forced cells as the released guide's own fill.sh prints them over the translation 14dd07cde3031f9b… (all of the seat's roots in one cut). By AI agents, Wed Nov 11 2026. No macro, syntax, notation, axiom, sorry.
-/
import Derived.Test.YtaplmdbcjckbkaaChecked
import GoSem.Claim
import GoSem.ClaimJoined
import GoSem.ClaimMapViews
import Derived.JoinedTies
import Derived.KernelRfl
namespace Go.Proofs.Ytaplmdbcjckbkaa
/- THE CELL 'sum', in the pinned program and in every row, IS THE sha256 OF THE DUMP (.gsa) THAT YtaplmdbcjckbkaaProg.lean LOADS. Nothing in Lean hashes anything: it is a label: what it is worth is what the hold of that sum in a sandbox is worth. -/
noncomputable def Try.pinned : Pinned := { name := "ytaplmdbcjckbkaa", sum := "14dd07cde3031f9b856820fff3222d097202bacc1dddbcd68173c0cc82e4eae8", checked := Try.checked }
namespace Rows
def none {H : Type} : Left H := { results := [], args := [] }

/-- 'laws.FnAdlerAdded': WHATEVER THE INPUT: true; the input reads as it did. -/
def fnAdlerAddedSpec : ChangeSpec := { name := "fnAdlerAdded", fn := fun _ => fun
  | [d1, d2] => { results := [.lit (.bool true)], args := [d1, d2] }
  | _ => none }
def fnAdlerAddedRow : OpenClaim := { program := "ytaplmdbcjckbkaa", sum := "14dd07cde3031f9b856820fff3222d097202bacc1dddbcd68173c0cc82e4eae8", func := "loop.example/lib-g01422/laws.FnAdlerAdded", spec := "fnAdlerAdded", unfollowed := true, recurses := true, apart := false }
def FnAdlerAddedSaid : Prop := fnAdlerAddedRow.holds Try.pinned (OpenSpec.ofChange fnAdlerAddedSpec)

/-- ITS FALSE NEIGHBOUR: 'it returns false'. Refute it at one input. -/
def fnAdlerAddedWrong : ChangeSpec := { name := "fnAdlerAdded", fn := fun _ => fun
  | [d1, d2] => { results := [.lit (.bool false)], args := [d1, d2] }
  | _ => none }
def FnAdlerAddedWrongFalsely : Prop := fnAdlerAddedRow.holds Try.pinned (OpenSpec.ofChange fnAdlerAddedWrong)

/-- 'laws.FnAdlerFilled': WHATEVER THE INPUT: true; the input reads as it did. -/
def fnAdlerFilledSpec : ChangeSpec := { name := "fnAdlerFilled", fn := fun _ => fun
  | [d1, d2] => { results := [.lit (.bool true)], args := [d1, d2] }
  | _ => none }
def fnAdlerFilledRow : OpenClaim := { program := "ytaplmdbcjckbkaa", sum := "14dd07cde3031f9b856820fff3222d097202bacc1dddbcd68173c0cc82e4eae8", func := "loop.example/lib-g01422/laws.FnAdlerFilled", spec := "fnAdlerFilled", unfollowed := true, recurses := true, apart := false }
def FnAdlerFilledSaid : Prop := fnAdlerFilledRow.holds Try.pinned (OpenSpec.ofChange fnAdlerFilledSpec)

/-- ITS FALSE NEIGHBOUR: 'it returns false'. Refute it at one input. -/
def fnAdlerFilledWrong : ChangeSpec := { name := "fnAdlerFilled", fn := fun _ => fun
  | [d1, d2] => { results := [.lit (.bool false)], args := [d1, d2] }
  | _ => none }
def FnAdlerFilledWrongFalsely : Prop := fnAdlerFilledRow.holds Try.pinned (OpenSpec.ofChange fnAdlerFilledWrong)

/-- 'laws.FnAdlerLeap': WHATEVER THE INPUT: true; the input reads as it did. -/
def fnAdlerLeapSpec : ChangeSpec := { name := "fnAdlerLeap", fn := fun _ => fun
  | [d1, d2] => { results := [.lit (.bool true)], args := [d1, d2] }
  | _ => none }
def fnAdlerLeapRow : OpenClaim := { program := "ytaplmdbcjckbkaa", sum := "14dd07cde3031f9b856820fff3222d097202bacc1dddbcd68173c0cc82e4eae8", func := "loop.example/lib-g01422/laws.FnAdlerLeap", spec := "fnAdlerLeap", unfollowed := true, recurses := true, apart := false }
def FnAdlerLeapSaid : Prop := fnAdlerLeapRow.holds Try.pinned (OpenSpec.ofChange fnAdlerLeapSpec)

/-- ITS FALSE NEIGHBOUR: 'it returns false'. Refute it at one input. -/
def fnAdlerLeapWrong : ChangeSpec := { name := "fnAdlerLeap", fn := fun _ => fun
  | [d1, d2] => { results := [.lit (.bool false)], args := [d1, d2] }
  | _ => none }
def FnAdlerLeapWrongFalsely : Prop := fnAdlerLeapRow.holds Try.pinned (OpenSpec.ofChange fnAdlerLeapWrong)

/-- 'laws.FnAdlerRepeated': WHATEVER THE INPUT: true; the input reads as it did. -/
def fnAdlerRepeatedSpec : ChangeSpec := { name := "fnAdlerRepeated", fn := fun _ => fun
  | [d1, d2] => { results := [.lit (.bool true)], args := [d1, d2] }
  | _ => none }
def fnAdlerRepeatedRow : OpenClaim := { program := "ytaplmdbcjckbkaa", sum := "14dd07cde3031f9b856820fff3222d097202bacc1dddbcd68173c0cc82e4eae8", func := "loop.example/lib-g01422/laws.FnAdlerRepeated", spec := "fnAdlerRepeated", unfollowed := true, recurses := true, apart := false }
def FnAdlerRepeatedSaid : Prop := fnAdlerRepeatedRow.holds Try.pinned (OpenSpec.ofChange fnAdlerRepeatedSpec)

/-- ITS FALSE NEIGHBOUR: 'it returns false'. Refute it at one input. -/
def fnAdlerRepeatedWrong : ChangeSpec := { name := "fnAdlerRepeated", fn := fun _ => fun
  | [d1, d2] => { results := [.lit (.bool false)], args := [d1, d2] }
  | _ => none }
def FnAdlerRepeatedWrongFalsely : Prop := fnAdlerRepeatedRow.holds Try.pinned (OpenSpec.ofChange fnAdlerRepeatedWrong)

/-- 'laws.FnAdlerReversed': WHATEVER THE INPUT: true; the input reads as it did. -/
def fnAdlerReversedSpec : ChangeSpec := { name := "fnAdlerReversed", fn := fun _ => fun
  | [d] => { results := [.lit (.bool true)], args := [d] }
  | _ => none }
def fnAdlerReversedRow : OpenClaim := { program := "ytaplmdbcjckbkaa", sum := "14dd07cde3031f9b856820fff3222d097202bacc1dddbcd68173c0cc82e4eae8", func := "loop.example/lib-g01422/laws.FnAdlerReversed", spec := "fnAdlerReversed", unfollowed := true, recurses := true, apart := false }
def FnAdlerReversedSaid : Prop := fnAdlerReversedRow.holds Try.pinned (OpenSpec.ofChange fnAdlerReversedSpec)

/-- ITS FALSE NEIGHBOUR: 'it returns false'. Refute it at one input. -/
def fnAdlerReversedWrong : ChangeSpec := { name := "fnAdlerReversed", fn := fun _ => fun
  | [d] => { results := [.lit (.bool false)], args := [d] }
  | _ => none }
def FnAdlerReversedWrongFalsely : Prop := fnAdlerReversedRow.holds Try.pinned (OpenSpec.ofChange fnAdlerReversedWrong)

/-- 'laws.FnAdlerRolled': WHATEVER THE INPUT: true; the input reads as it did. -/
def fnAdlerRolledSpec : ChangeSpec := { name := "fnAdlerRolled", fn := fun _ => fun
  | [d1, d2, d3] => { results := [.lit (.bool true)], args := [d1, d2, d3] }
  | _ => none }
def fnAdlerRolledRow : OpenClaim := { program := "ytaplmdbcjckbkaa", sum := "14dd07cde3031f9b856820fff3222d097202bacc1dddbcd68173c0cc82e4eae8", func := "loop.example/lib-g01422/laws.FnAdlerRolled", spec := "fnAdlerRolled", unfollowed := true, recurses := true, apart := false }
def FnAdlerRolledSaid : Prop := fnAdlerRolledRow.holds Try.pinned (OpenSpec.ofChange fnAdlerRolledSpec)

/-- ITS FALSE NEIGHBOUR: 'it returns false'. Refute it at one input. -/
def fnAdlerRolledWrong : ChangeSpec := { name := "fnAdlerRolled", fn := fun _ => fun
  | [d1, d2, d3] => { results := [.lit (.bool false)], args := [d1, d2, d3] }
  | _ => none }
def FnAdlerRolledWrongFalsely : Prop := fnAdlerRolledRow.holds Try.pinned (OpenSpec.ofChange fnAdlerRolledWrong)

/-- 'laws.FnAdlerSwapped': WHATEVER THE INPUT: true; the input reads as it did. -/
def fnAdlerSwappedSpec : ChangeSpec := { name := "fnAdlerSwapped", fn := fun _ => fun
  | [d1, d2, d3] => { results := [.lit (.bool true)], args := [d1, d2, d3] }
  | _ => none }
def fnAdlerSwappedRow : OpenClaim := { program := "ytaplmdbcjckbkaa", sum := "14dd07cde3031f9b856820fff3222d097202bacc1dddbcd68173c0cc82e4eae8", func := "loop.example/lib-g01422/laws.FnAdlerSwapped", spec := "fnAdlerSwapped", unfollowed := true, recurses := true, apart := false }
def FnAdlerSwappedSaid : Prop := fnAdlerSwappedRow.holds Try.pinned (OpenSpec.ofChange fnAdlerSwappedSpec)

/-- ITS FALSE NEIGHBOUR: 'it returns false'. Refute it at one input. -/
def fnAdlerSwappedWrong : ChangeSpec := { name := "fnAdlerSwapped", fn := fun _ => fun
  | [d1, d2, d3] => { results := [.lit (.bool false)], args := [d1, d2, d3] }
  | _ => none }
def FnAdlerSwappedWrongFalsely : Prop := fnAdlerSwappedRow.holds Try.pinned (OpenSpec.ofChange fnAdlerSwappedWrong)

/-- 'laws.FnFnvApart': WHATEVER THE INPUT: true; the input reads as it did. -/
def fnFnvApartSpec : ChangeSpec := { name := "fnFnvApart", fn := fun _ => fun
  | [d1, d2, d3, d4] => { results := [.lit (.bool true)], args := [d1, d2, d3, d4] }
  | _ => none }
def fnFnvApartRow : OpenClaim := { program := "ytaplmdbcjckbkaa", sum := "14dd07cde3031f9b856820fff3222d097202bacc1dddbcd68173c0cc82e4eae8", func := "loop.example/lib-g01422/laws.FnFnvApart", spec := "fnFnvApart", unfollowed := true, recurses := true, apart := false }
def FnFnvApartSaid : Prop := fnFnvApartRow.holds Try.pinned (OpenSpec.ofChange fnFnvApartSpec)

/-- ITS FALSE NEIGHBOUR: 'it returns false'. Refute it at one input. -/
def fnFnvApartWrong : ChangeSpec := { name := "fnFnvApart", fn := fun _ => fun
  | [d1, d2, d3, d4] => { results := [.lit (.bool false)], args := [d1, d2, d3, d4] }
  | _ => none }
def FnFnvApartWrongFalsely : Prop := fnFnvApartRow.holds Try.pinned (OpenSpec.ofChange fnFnvApartWrong)

/-- 'laws.FnFnvLast': WHATEVER THE INPUT: true; the input reads as it did. -/
def fnFnvLastSpec : ChangeSpec := { name := "fnFnvLast", fn := fun _ => fun
  | [d1, d2, d3, d4] => { results := [.lit (.bool true)], args := [d1, d2, d3, d4] }
  | _ => none }
def fnFnvLastRow : OpenClaim := { program := "ytaplmdbcjckbkaa", sum := "14dd07cde3031f9b856820fff3222d097202bacc1dddbcd68173c0cc82e4eae8", func := "loop.example/lib-g01422/laws.FnFnvLast", spec := "fnFnvLast", unfollowed := true, recurses := true, apart := false }
def FnFnvLastSaid : Prop := fnFnvLastRow.holds Try.pinned (OpenSpec.ofChange fnFnvLastSpec)

/-- ITS FALSE NEIGHBOUR: 'it returns false'. Refute it at one input. -/
def fnFnvLastWrong : ChangeSpec := { name := "fnFnvLast", fn := fun _ => fun
  | [d1, d2, d3, d4] => { results := [.lit (.bool false)], args := [d1, d2, d3, d4] }
  | _ => none }
def FnFnvLastWrongFalsely : Prop := fnFnvLastRow.holds Try.pinned (OpenSpec.ofChange fnFnvLastWrong)

/-- 'laws.FnFnvLowBits': WHATEVER THE INPUT: true; the input reads as it did. -/
def fnFnvLowBitsSpec : ChangeSpec := { name := "fnFnvLowBits", fn := fun _ => fun
  | [d1, d2, d3, d4] => { results := [.lit (.bool true)], args := [d1, d2, d3, d4] }
  | _ => none }
def fnFnvLowBitsRow : OpenClaim := { program := "ytaplmdbcjckbkaa", sum := "14dd07cde3031f9b856820fff3222d097202bacc1dddbcd68173c0cc82e4eae8", func := "loop.example/lib-g01422/laws.FnFnvLowBits", spec := "fnFnvLowBits", unfollowed := true, recurses := true, apart := false }
def FnFnvLowBitsSaid : Prop := fnFnvLowBitsRow.holds Try.pinned (OpenSpec.ofChange fnFnvLowBitsSpec)

/-- ITS FALSE NEIGHBOUR: 'it returns false'. Refute it at one input. -/
def fnFnvLowBitsWrong : ChangeSpec := { name := "fnFnvLowBits", fn := fun _ => fun
  | [d1, d2, d3, d4] => { results := [.lit (.bool false)], args := [d1, d2, d3, d4] }
  | _ => none }
def FnFnvLowBitsWrongFalsely : Prop := fnFnvLowBitsRow.holds Try.pinned (OpenSpec.ofChange fnFnvLowBitsWrong)

/-- 'laws.FnFnvParity': WHATEVER THE INPUT: true; the input reads as it did. -/
def fnFnvParitySpec : ChangeSpec := { name := "fnFnvParity", fn := fun _ => fun
  | [d1, d2] => { results := [.lit (.bool true)], args := [d1, d2] }
  | _ => none }
def fnFnvParityRow : OpenClaim := { program := "ytaplmdbcjckbkaa", sum := "14dd07cde3031f9b856820fff3222d097202bacc1dddbcd68173c0cc82e4eae8", func := "loop.example/lib-g01422/laws.FnFnvParity", spec := "fnFnvParity", unfollowed := true, recurses := true, apart := false }
def FnFnvParitySaid : Prop := fnFnvParityRow.holds Try.pinned (OpenSpec.ofChange fnFnvParitySpec)

/-- ITS FALSE NEIGHBOUR: 'it returns false'. Refute it at one input. -/
def fnFnvParityWrong : ChangeSpec := { name := "fnFnvParity", fn := fun _ => fun
  | [d1, d2] => { results := [.lit (.bool false)], args := [d1, d2] }
  | _ => none }
def FnFnvParityWrongFalsely : Prop := fnFnvParityRow.holds Try.pinned (OpenSpec.ofChange fnFnvParityWrong)

/-- 'laws.FnFnvKinds': WHATEVER THE INPUT: true; the input reads as it did. -/
def fnFnvKindsSpec : ChangeSpec := { name := "fnFnvKinds", fn := fun _ => fun
  | [d1, d2] => { results := [.lit (.bool true)], args := [d1, d2] }
  | _ => none }
def fnFnvKindsRow : OpenClaim := { program := "ytaplmdbcjckbkaa", sum := "14dd07cde3031f9b856820fff3222d097202bacc1dddbcd68173c0cc82e4eae8", func := "loop.example/lib-g01422/laws.FnFnvKinds", spec := "fnFnvKinds", unfollowed := true, recurses := true, apart := false }
def FnFnvKindsSaid : Prop := fnFnvKindsRow.holds Try.pinned (OpenSpec.ofChange fnFnvKindsSpec)

/-- ITS FALSE NEIGHBOUR: 'it returns false'. Refute it at one input. -/
def fnFnvKindsWrong : ChangeSpec := { name := "fnFnvKinds", fn := fun _ => fun
  | [d1, d2] => { results := [.lit (.bool false)], args := [d1, d2] }
  | _ => none }
def FnFnvKindsWrongFalsely : Prop := fnFnvKindsRow.holds Try.pinned (OpenSpec.ofChange fnFnvKindsWrong)

/-- 'laws.FnFnvZeros': WHATEVER THE INPUT: true; the input reads as it did. -/
def fnFnvZerosSpec : ChangeSpec := { name := "fnFnvZeros", fn := fun _ => fun
  | [d1, d2] => { results := [.lit (.bool true)], args := [d1, d2] }
  | _ => none }
def fnFnvZerosRow : OpenClaim := { program := "ytaplmdbcjckbkaa", sum := "14dd07cde3031f9b856820fff3222d097202bacc1dddbcd68173c0cc82e4eae8", func := "loop.example/lib-g01422/laws.FnFnvZeros", spec := "fnFnvZeros", unfollowed := true, recurses := true, apart := false }
def FnFnvZerosSaid : Prop := fnFnvZerosRow.holds Try.pinned (OpenSpec.ofChange fnFnvZerosSpec)

/-- ITS FALSE NEIGHBOUR: 'it returns false'. Refute it at one input. -/
def fnFnvZerosWrong : ChangeSpec := { name := "fnFnvZeros", fn := fun _ => fun
  | [d1, d2] => { results := [.lit (.bool false)], args := [d1, d2] }
  | _ => none }
def FnFnvZerosWrongFalsely : Prop := fnFnvZerosRow.holds Try.pinned (OpenSpec.ofChange fnFnvZerosWrong)

/-- 'laws.FnFnvZerosBehind': WHATEVER THE INPUT: true; the input reads as it did. -/
def fnFnvZerosBehindSpec : ChangeSpec := { name := "fnFnvZerosBehind", fn := fun _ => fun
  | [d1, d2, d3] => { results := [.lit (.bool true)], args := [d1, d2, d3] }
  | _ => none }
def fnFnvZerosBehindRow : OpenClaim := { program := "ytaplmdbcjckbkaa", sum := "14dd07cde3031f9b856820fff3222d097202bacc1dddbcd68173c0cc82e4eae8", func := "loop.example/lib-g01422/laws.FnFnvZerosBehind", spec := "fnFnvZerosBehind", unfollowed := true, recurses := true, apart := false }
def FnFnvZerosBehindSaid : Prop := fnFnvZerosBehindRow.holds Try.pinned (OpenSpec.ofChange fnFnvZerosBehindSpec)

/-- ITS FALSE NEIGHBOUR: 'it returns false'. Refute it at one input. -/
def fnFnvZerosBehindWrong : ChangeSpec := { name := "fnFnvZerosBehind", fn := fun _ => fun
  | [d1, d2, d3] => { results := [.lit (.bool false)], args := [d1, d2, d3] }
  | _ => none }
def FnFnvZerosBehindWrongFalsely : Prop := fnFnvZerosBehindRow.holds Try.pinned (OpenSpec.ofChange fnFnvZerosBehindWrong)

/- THE SECOND FORM. 'bulk': how many values and letters a reading holds, each counted each time it is reached (what is shared counts as often as it is met; a slice's spare places count too). A statement '..UptoSaid' is the law's where the arguments, and the package variables that the reading takes, are together of bulk at most 1048576: NARROWER than '..Said'. Prove '..Said' where nothing that the law and all that it calls make is longer than what came in: it says more and counts as full. Else prove '..UptoSaid'. A law counts once. -/
mutual
def uptoBulk {H : Type} : DataW H → Nat
  | .lit (.string bytes) => bytes.length + 1
  | .lit _ => 1
  | .nil => 1
  | .ptr d => uptoBulk d + 1
  | .slice elems spare => uptoBulkAll elems + uptoBulkAll spare + 1
  | .agg parts => uptoBulkAll parts + 1
  | .iface _ d => uptoBulk d + 1
  | .map entries => uptoBulkEntries entries + 1
  | .held _ => 1
def uptoBulkAll {H : Type} : List (DataW H) → Nat
  | [] => 0
  | d :: r => uptoBulk d + uptoBulkAll r
def uptoBulkEntries {H : Type} : List (Lit × DataW H) → Nat
  | [] => 0
  | x :: r => uptoBulkEntry x + uptoBulkEntries r
def uptoBulkEntry {H : Type} : Lit × DataW H → Nat
  | (.string bytes, d) => bytes.length + uptoBulk d + 1
  | (_, d) => uptoBulk d + 1
 end
def uptoSmall : (H : Type) → List (DataW H) → Bool := fun _ ds => decide (uptoBulkAll ds ≤ 1048576)
def OpenSpec.upto (s : _root_.Go.ChangeSpec) : _root_.Go.OpenSpec := { _root_.Go.OpenSpec.ofChange s with cond := some uptoSmall }

/-- 'laws.FnAdlerAdded', WHERE WHAT IT READS IS OF BULK AT MOST 1048576: true; the input reads as it did. -/
def fnAdlerAddedUptoRow : OpenClaim := { program := "ytaplmdbcjckbkaa", sum := "14dd07cde3031f9b856820fff3222d097202bacc1dddbcd68173c0cc82e4eae8", func := "loop.example/lib-g01422/laws.FnAdlerAdded", spec := "fnAdlerAdded", unfollowed := true, recurses := true, apart := false, narrowed := true }
def FnAdlerAddedUptoSaid : Prop := fnAdlerAddedUptoRow.holds Try.pinned (OpenSpec.upto fnAdlerAddedSpec)

/-- 'laws.FnAdlerFilled', WHERE WHAT IT READS IS OF BULK AT MOST 1048576: true; the input reads as it did. -/
def fnAdlerFilledUptoRow : OpenClaim := { program := "ytaplmdbcjckbkaa", sum := "14dd07cde3031f9b856820fff3222d097202bacc1dddbcd68173c0cc82e4eae8", func := "loop.example/lib-g01422/laws.FnAdlerFilled", spec := "fnAdlerFilled", unfollowed := true, recurses := true, apart := false, narrowed := true }
def FnAdlerFilledUptoSaid : Prop := fnAdlerFilledUptoRow.holds Try.pinned (OpenSpec.upto fnAdlerFilledSpec)

/-- 'laws.FnAdlerLeap', WHERE WHAT IT READS IS OF BULK AT MOST 1048576: true; the input reads as it did. -/
def fnAdlerLeapUptoRow : OpenClaim := { program := "ytaplmdbcjckbkaa", sum := "14dd07cde3031f9b856820fff3222d097202bacc1dddbcd68173c0cc82e4eae8", func := "loop.example/lib-g01422/laws.FnAdlerLeap", spec := "fnAdlerLeap", unfollowed := true, recurses := true, apart := false, narrowed := true }
def FnAdlerLeapUptoSaid : Prop := fnAdlerLeapUptoRow.holds Try.pinned (OpenSpec.upto fnAdlerLeapSpec)

/-- 'laws.FnAdlerRepeated', WHERE WHAT IT READS IS OF BULK AT MOST 1048576: true; the input reads as it did. -/
def fnAdlerRepeatedUptoRow : OpenClaim := { program := "ytaplmdbcjckbkaa", sum := "14dd07cde3031f9b856820fff3222d097202bacc1dddbcd68173c0cc82e4eae8", func := "loop.example/lib-g01422/laws.FnAdlerRepeated", spec := "fnAdlerRepeated", unfollowed := true, recurses := true, apart := false, narrowed := true }
def FnAdlerRepeatedUptoSaid : Prop := fnAdlerRepeatedUptoRow.holds Try.pinned (OpenSpec.upto fnAdlerRepeatedSpec)

/-- 'laws.FnAdlerReversed', WHERE WHAT IT READS IS OF BULK AT MOST 1048576: true; the input reads as it did. -/
def fnAdlerReversedUptoRow : OpenClaim := { program := "ytaplmdbcjckbkaa", sum := "14dd07cde3031f9b856820fff3222d097202bacc1dddbcd68173c0cc82e4eae8", func := "loop.example/lib-g01422/laws.FnAdlerReversed", spec := "fnAdlerReversed", unfollowed := true, recurses := true, apart := false, narrowed := true }
def FnAdlerReversedUptoSaid : Prop := fnAdlerReversedUptoRow.holds Try.pinned (OpenSpec.upto fnAdlerReversedSpec)

/-- 'laws.FnAdlerRolled', WHERE WHAT IT READS IS OF BULK AT MOST 1048576: true; the input reads as it did. -/
def fnAdlerRolledUptoRow : OpenClaim := { program := "ytaplmdbcjckbkaa", sum := "14dd07cde3031f9b856820fff3222d097202bacc1dddbcd68173c0cc82e4eae8", func := "loop.example/lib-g01422/laws.FnAdlerRolled", spec := "fnAdlerRolled", unfollowed := true, recurses := true, apart := false, narrowed := true }
def FnAdlerRolledUptoSaid : Prop := fnAdlerRolledUptoRow.holds Try.pinned (OpenSpec.upto fnAdlerRolledSpec)

/-- 'laws.FnAdlerSwapped', WHERE WHAT IT READS IS OF BULK AT MOST 1048576: true; the input reads as it did. -/
def fnAdlerSwappedUptoRow : OpenClaim := { program := "ytaplmdbcjckbkaa", sum := "14dd07cde3031f9b856820fff3222d097202bacc1dddbcd68173c0cc82e4eae8", func := "loop.example/lib-g01422/laws.FnAdlerSwapped", spec := "fnAdlerSwapped", unfollowed := true, recurses := true, apart := false, narrowed := true }
def FnAdlerSwappedUptoSaid : Prop := fnAdlerSwappedUptoRow.holds Try.pinned (OpenSpec.upto fnAdlerSwappedSpec)

/-- 'laws.FnFnvApart', WHERE WHAT IT READS IS OF BULK AT MOST 1048576: true; the input reads as it did. -/
def fnFnvApartUptoRow : OpenClaim := { program := "ytaplmdbcjckbkaa", sum := "14dd07cde3031f9b856820fff3222d097202bacc1dddbcd68173c0cc82e4eae8", func := "loop.example/lib-g01422/laws.FnFnvApart", spec := "fnFnvApart", unfollowed := true, recurses := true, apart := false, narrowed := true }
def FnFnvApartUptoSaid : Prop := fnFnvApartUptoRow.holds Try.pinned (OpenSpec.upto fnFnvApartSpec)

/-- 'laws.FnFnvLast', WHERE WHAT IT READS IS OF BULK AT MOST 1048576: true; the input reads as it did. -/
def fnFnvLastUptoRow : OpenClaim := { program := "ytaplmdbcjckbkaa", sum := "14dd07cde3031f9b856820fff3222d097202bacc1dddbcd68173c0cc82e4eae8", func := "loop.example/lib-g01422/laws.FnFnvLast", spec := "fnFnvLast", unfollowed := true, recurses := true, apart := false, narrowed := true }
def FnFnvLastUptoSaid : Prop := fnFnvLastUptoRow.holds Try.pinned (OpenSpec.upto fnFnvLastSpec)

/-- 'laws.FnFnvLowBits', WHERE WHAT IT READS IS OF BULK AT MOST 1048576: true; the input reads as it did. -/
def fnFnvLowBitsUptoRow : OpenClaim := { program := "ytaplmdbcjckbkaa", sum := "14dd07cde3031f9b856820fff3222d097202bacc1dddbcd68173c0cc82e4eae8", func := "loop.example/lib-g01422/laws.FnFnvLowBits", spec := "fnFnvLowBits", unfollowed := true, recurses := true, apart := false, narrowed := true }
def FnFnvLowBitsUptoSaid : Prop := fnFnvLowBitsUptoRow.holds Try.pinned (OpenSpec.upto fnFnvLowBitsSpec)

/-- 'laws.FnFnvParity', WHERE WHAT IT READS IS OF BULK AT MOST 1048576: true; the input reads as it did. -/
def fnFnvParityUptoRow : OpenClaim := { program := "ytaplmdbcjckbkaa", sum := "14dd07cde3031f9b856820fff3222d097202bacc1dddbcd68173c0cc82e4eae8", func := "loop.example/lib-g01422/laws.FnFnvParity", spec := "fnFnvParity", unfollowed := true, recurses := true, apart := false, narrowed := true }
def FnFnvParityUptoSaid : Prop := fnFnvParityUptoRow.holds Try.pinned (OpenSpec.upto fnFnvParitySpec)

/-- 'laws.FnFnvKinds', WHERE WHAT IT READS IS OF BULK AT MOST 1048576: true; the input reads as it did. -/
def fnFnvKindsUptoRow : OpenClaim := { program := "ytaplmdbcjckbkaa", sum := "14dd07cde3031f9b856820fff3222d097202bacc1dddbcd68173c0cc82e4eae8", func := "loop.example/lib-g01422/laws.FnFnvKinds", spec := "fnFnvKinds", unfollowed := true, recurses := true, apart := false, narrowed := true }
def FnFnvKindsUptoSaid : Prop := fnFnvKindsUptoRow.holds Try.pinned (OpenSpec.upto fnFnvKindsSpec)

/-- 'laws.FnFnvZeros', WHERE WHAT IT READS IS OF BULK AT MOST 1048576: true; the input reads as it did. -/
def fnFnvZerosUptoRow : OpenClaim := { program := "ytaplmdbcjckbkaa", sum := "14dd07cde3031f9b856820fff3222d097202bacc1dddbcd68173c0cc82e4eae8", func := "loop.example/lib-g01422/laws.FnFnvZeros", spec := "fnFnvZeros", unfollowed := true, recurses := true, apart := false, narrowed := true }
def FnFnvZerosUptoSaid : Prop := fnFnvZerosUptoRow.holds Try.pinned (OpenSpec.upto fnFnvZerosSpec)

/-- 'laws.FnFnvZerosBehind', WHERE WHAT IT READS IS OF BULK AT MOST 1048576: true; the input reads as it did. -/
def fnFnvZerosBehindUptoRow : OpenClaim := { program := "ytaplmdbcjckbkaa", sum := "14dd07cde3031f9b856820fff3222d097202bacc1dddbcd68173c0cc82e4eae8", func := "loop.example/lib-g01422/laws.FnFnvZerosBehind", spec := "fnFnvZerosBehind", unfollowed := true, recurses := true, apart := false, narrowed := true }
def FnFnvZerosBehindUptoSaid : Prop := fnFnvZerosBehindUptoRow.holds Try.pinned (OpenSpec.upto fnFnvZerosBehindSpec)

end Rows
end Go.Proofs.Ytaplmdbcjckbkaa

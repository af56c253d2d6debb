/-
  No cell of these rows narrows 'for every input' (looked for: loops, veiled, ifaces, maps, wideKeys, modest, calm, conditions, laid).
  DERIVED. THE GIVEN ROWS OF THIS SEAT. 3 by the template 'for every input the law returns true; each argument reads behind the call as it read before'; 0 by the template 'total and deterministic' (their statements: YtaplmdbcjckbkaaGreatTotals.lean).
  GIVEN WITH THE SEED: the statements are not yours to turn. If you find one false, say at which input.
  Laid BY PROGRAM, IN A SANDBOX (cutbox-rows.mjs): the forced cells as the released guide's own fill.sh prints them over the translation ff39a9b5eff3c668… (all of the seat's roots in one cut). By AI agents, Wed Nov 11 2026. No macro, syntax, notation, axiom, sorry.
-/
import Derived.Test.YtaplmdbcjckbkaaGreatChecked
import GoSem.Claim
import GoSem.ClaimJoined
import GoSem.ClaimMapViews
import Derived.JoinedTies
import Derived.KernelRfl
namespace Go.Proofs.YtaplmdbcjckbkaaGreat
/- THE CELL 'sum', in the pinned program and in every row, IS THE sha256 OF THE DUMP (.gsa) THAT YtaplmdbcjckbkaaGreatProg.lean LOADS. Nothing in Lean hashes anything: it is a label: what it is worth is what the hold of that sum in a sandbox is worth. -/
noncomputable def Tryz.pinned : Pinned := { name := "ytaplmdbcjckbkaagreat", sum := "ff39a9b5eff3c6683f9a6b7feefded2445529864c018158773e3485904efb9dd", checked := Tryz.checked }
namespace Rows
def none {H : Type} : Left H := { results := [], args := [] }

/-- 'laws.FnFnvBack': WHATEVER THE INPUT: true; the input reads as it did. -/
def fnFnvBackSpec : ChangeSpec := { name := "fnFnvBack", fn := fun _ => fun
  | [d1, d2, d3] => { results := [.lit (.bool true)], args := [d1, d2, d3] }
  | _ => none }
def fnFnvBackRow : OpenClaim := { program := "ytaplmdbcjckbkaagreat", sum := "ff39a9b5eff3c6683f9a6b7feefded2445529864c018158773e3485904efb9dd", func := "loop.example/lib-g01422/laws.FnFnvBack", spec := "fnFnvBack", inPlace := ["math/bits.Sub64"], unfollowed := true, recurses := true, apart := false }
def FnFnvBackSaid : Prop := fnFnvBackRow.holds Tryz.pinned (OpenSpec.ofChange fnFnvBackSpec)

/-- ITS FALSE NEIGHBOUR: 'it returns false'. Refute it at one input. -/
def fnFnvBackWrong : ChangeSpec := { name := "fnFnvBack", fn := fun _ => fun
  | [d1, d2, d3] => { results := [.lit (.bool false)], args := [d1, d2, d3] }
  | _ => none }
def FnFnvBackWrongFalsely : Prop := fnFnvBackRow.holds Tryz.pinned (OpenSpec.ofChange fnFnvBackWrong)

/-- 'laws.FnFnvBasis': WHATEVER THE INPUT: true; the input reads as it did. -/
def fnFnvBasisSpec : ChangeSpec := { name := "fnFnvBasis", fn := fun _ => fun
  | [d1, d2] => { results := [.lit (.bool true)], args := [d1, d2] }
  | _ => none }
def fnFnvBasisRow : OpenClaim := { program := "ytaplmdbcjckbkaagreat", sum := "ff39a9b5eff3c6683f9a6b7feefded2445529864c018158773e3485904efb9dd", func := "loop.example/lib-g01422/laws.FnFnvBasis", spec := "fnFnvBasis", inPlace := ["math/bits.Sub64"], unfollowed := true, recurses := true, apart := false }
def FnFnvBasisSaid : Prop := fnFnvBasisRow.holds Tryz.pinned (OpenSpec.ofChange fnFnvBasisSpec)

/-- ITS FALSE NEIGHBOUR: 'it returns false'. Refute it at one input. -/
def fnFnvBasisWrong : ChangeSpec := { name := "fnFnvBasis", fn := fun _ => fun
  | [d1, d2] => { results := [.lit (.bool false)], args := [d1, d2] }
  | _ => none }
def FnFnvBasisWrongFalsely : Prop := fnFnvBasisRow.holds Tryz.pinned (OpenSpec.ofChange fnFnvBasisWrong)

/-- 'laws.FnFnvStep': WHATEVER THE INPUT: true; the input reads as it did. -/
def fnFnvStepSpec : ChangeSpec := { name := "fnFnvStep", fn := fun _ => fun
  | [d1, d2] => { results := [.lit (.bool true)], args := [d1, d2] }
  | _ => none }
def fnFnvStepRow : OpenClaim := { program := "ytaplmdbcjckbkaagreat", sum := "ff39a9b5eff3c6683f9a6b7feefded2445529864c018158773e3485904efb9dd", func := "loop.example/lib-g01422/laws.FnFnvStep", spec := "fnFnvStep", unfollowed := true, recurses := true, apart := false }
def FnFnvStepSaid : Prop := fnFnvStepRow.holds Tryz.pinned (OpenSpec.ofChange fnFnvStepSpec)

/-- ITS FALSE NEIGHBOUR: 'it returns false'. Refute it at one input. -/
def fnFnvStepWrong : ChangeSpec := { name := "fnFnvStep", fn := fun _ => fun
  | [d1, d2] => { results := [.lit (.bool false)], args := [d1, d2] }
  | _ => none }
def FnFnvStepWrongFalsely : Prop := fnFnvStepRow.holds Tryz.pinned (OpenSpec.ofChange fnFnvStepWrong)

/- THE SECOND FORM. 'bulk': how many values and letters a reading holds, each counted each time it is reached (what is shared counts as often as it is met; a slice's spare places count too). A statement '..UptoSaid' is the law's where the arguments, and the package variables that the reading takes, are together of bulk at most 1048576: NARROWER than '..Said'. Prove '..Said' where nothing that the law and all that it calls make is longer than what came in: it says more and counts as full. Else prove '..UptoSaid'. A law counts once. -/
mutual
def uptoBulk {H : Type} : DataW H → Nat
  | .lit (.string bytes) => bytes.length + 1
  | .lit _ => 1
  | .nil => 1
  | .ptr d => uptoBulk d + 1
  | .slice elems spare => uptoBulkAll elems + uptoBulkAll spare + 1
  | .agg parts => uptoBulkAll parts + 1
  | .iface _ d => uptoBulk d + 1
  | .map entries => uptoBulkEntries entries + 1
  | .held _ => 1
def uptoBulkAll {H : Type} : List (DataW H) → Nat
  | [] => 0
  | d :: r => uptoBulk d + uptoBulkAll r
def uptoBulkEntries {H : Type} : List (Lit × DataW H) → Nat
  | [] => 0
  | x :: r => uptoBulkEntry x + uptoBulkEntries r
def uptoBulkEntry {H : Type} : Lit × DataW H → Nat
  | (.string bytes, d) => bytes.length + uptoBulk d + 1
  | (_, d) => uptoBulk d + 1
 end
def uptoSmall : (H : Type) → List (DataW H) → Bool := fun _ ds => decide (uptoBulkAll ds ≤ 1048576)
def OpenSpec.upto (s : _root_.Go.ChangeSpec) : _root_.Go.OpenSpec := { _root_.Go.OpenSpec.ofChange s with cond := some uptoSmall }

/-- 'laws.FnFnvBack', WHERE WHAT IT READS IS OF BULK AT MOST 1048576: true; the input reads as it did. -/
def fnFnvBackUptoRow : OpenClaim := { program := "ytaplmdbcjckbkaagreat", sum := "ff39a9b5eff3c6683f9a6b7feefded2445529864c018158773e3485904efb9dd", func := "loop.example/lib-g01422/laws.FnFnvBack", spec := "fnFnvBack", inPlace := ["math/bits.Sub64"], unfollowed := true, recurses := true, apart := false, narrowed := true }
def FnFnvBackUptoSaid : Prop := fnFnvBackUptoRow.holds Tryz.pinned (OpenSpec.upto fnFnvBackSpec)

/-- 'laws.FnFnvBasis', WHERE WHAT IT READS IS OF BULK AT MOST 1048576: true; the input reads as it did. -/
def fnFnvBasisUptoRow : OpenClaim := { program := "ytaplmdbcjckbkaagreat", sum := "ff39a9b5eff3c6683f9a6b7feefded2445529864c018158773e3485904efb9dd", func := "loop.example/lib-g01422/laws.FnFnvBasis", spec := "fnFnvBasis", inPlace := ["math/bits.Sub64"], unfollowed := true, recurses := true, apart := false, narrowed := true }
def FnFnvBasisUptoSaid : Prop := fnFnvBasisUptoRow.holds Tryz.pinned (OpenSpec.upto fnFnvBasisSpec)

/-- 'laws.FnFnvStep', WHERE WHAT IT READS IS OF BULK AT MOST 1048576: true; the input reads as it did. -/
def fnFnvStepUptoRow : OpenClaim := { program := "ytaplmdbcjckbkaagreat", sum := "ff39a9b5eff3c6683f9a6b7feefded2445529864c018158773e3485904efb9dd", func := "loop.example/lib-g01422/laws.FnFnvStep", spec := "fnFnvStep", unfollowed := true, recurses := true, apart := false, narrowed := true }
def FnFnvStepUptoSaid : Prop := fnFnvStepUptoRow.holds Tryz.pinned (OpenSpec.upto fnFnvStepSpec)

end Rows
end Go.Proofs.YtaplmdbcjckbkaaGreat

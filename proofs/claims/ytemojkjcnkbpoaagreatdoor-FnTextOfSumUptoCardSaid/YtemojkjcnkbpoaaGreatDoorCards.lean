/-
  DERIVED. GIVEN WITH THE SEED: THE CARDS: each row of YtemojkjcnkbpoaaGreatDoorRows.lean that lists a variable, with what it lists TIED to the program's text (the seventh form; the later family's looks); each row that meets fmt, with fmt's text TOLD by the authors' own Lean function (tested against real Go, not proved from fmt's source: count such statements apart). THE CARD IS WHAT COUNTS. Prove the row's statement (the work); the ties are given (YtemojkjcnkbpoaaGreatDoorTie.lean); close each card by the builder's one call (the guide's Derived/Test/ToyasCard.lean, 'card_holds'). Laid BY PROGRAM, IN A SANDBOX (cutbox-door.mjs). By AI agents, Wed Nov 11 2026. No macro, syntax, notation, axiom, sorry.
-/
import Derived.Test.YtemojkjcnkbpoaaGreatDoorRows
import GoSem.ClaimSeven
namespace Go.Proofs.YtemojkjcnkbpoaaGreatDoor
namespace Rows

/-- THE TIED CARD OF 'laws.FnTextOfSum'. -/
def fnTextOfSumCard : Claim7 := { stood := { row := fnTextOfSumRow, standIns := [], harness := (true, "ce50aa2818c8d49e28ffb0c2dca70f45dac415d4c29c86a2836ee3b5aa842384"), looks := true }, kinds := [], alts := [], laidByText := true, laidKinds := [.handle], laidTests := true, laidLooks := .later }
def FnTextOfSumCardSaid : Prop := Claim7.holds Tryz.pinned (.plain (OpenSpec.ofChange fnTextOfSumSpec)) fnTextOfSumCard

/-- THE SECOND FORM's CARD OF 'laws.FnTextOfSum'. -/
def fnTextOfSumUptoCard : Claim7 := { stood := { row := fnTextOfSumUptoRow, standIns := [], harness := (true, "ce50aa2818c8d49e28ffb0c2dca70f45dac415d4c29c86a2836ee3b5aa842384"), looks := true }, kinds := [], alts := [], laidByText := true, laidKinds := [.handle], laidTests := true, laidLooks := .later }
def FnTextOfSumUptoCardSaid : Prop := Claim7.holds Tryz.pinned (.plain (OpenSpec.upto fnTextOfSumSpec)) fnTextOfSumUptoCard
end Rows
end Go.Proofs.YtemojkjcnkbpoaaGreatDoor

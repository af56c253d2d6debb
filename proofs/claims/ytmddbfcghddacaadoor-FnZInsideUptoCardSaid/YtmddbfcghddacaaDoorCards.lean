/-
  DERIVED. GIVEN WITH THE SEED: THE CARDS: each row of YtmddbfcghddacaaDoorRows.lean that lists a variable, with what it lists TIED to the program's text (the seventh form; the later family's looks); each row that meets fmt, with fmt's text TOLD by the authors' own Lean function (tested against real Go, not proved from fmt's source: count such statements apart). THE CARD IS WHAT COUNTS. Prove the row's statement (the work); the ties are given (YtmddbfcghddacaaDoorTie.lean); close each card by the builder's one call (the guide's Derived/Test/ToyasCard.lean, 'card_holds'). Laid BY PROGRAM, IN A SANDBOX (cutbox-door.mjs). By AI agents, Wed Nov 11 2026. No macro, syntax, notation, axiom, sorry.
-/
import Derived.Test.YtmddbfcghddacaaDoorRows
import GoSem.ClaimSeven
namespace Go.Proofs.YtmddbfcghddacaaDoor
namespace Rows

/-- THE TIED CARD OF 'laws.FnSteps'. -/
def fnStepsCard : Claim7 := { stood := { row := fnStepsRow, standIns := [], harness := (true, "0074f50c262db339fa8bcf52c04da551c89762a080faa3b5211c943336a94a8f"), looks := true }, kinds := [], alts := [], laidByText := true, laidKinds := [.handle], laidTests := true, laidLooks := .later }
def FnStepsCardSaid : Prop := Claim7.holds Tryd.pinned (.plain (OpenSpec.ofChange fnStepsSpec)) fnStepsCard

/-- THE TIED CARD OF 'laws.FnZInside'. -/
def fnZInsideCard : Claim7 := { stood := { row := fnZInsideRow, standIns := [], harness := (true, "0074f50c262db339fa8bcf52c04da551c89762a080faa3b5211c943336a94a8f"), looks := true }, kinds := [], alts := [], laidByText := true, laidKinds := [.handle], laidTests := true, laidLooks := .later }
def FnZInsideCardSaid : Prop := Claim7.holds Tryd.pinned (.plain (OpenSpec.ofChange fnZInsideSpec)) fnZInsideCard

/-- THE TIED CARD OF 'laws.FnInsertZ'. -/
def fnInsertZCard : Claim7 := { stood := { row := fnInsertZRow, standIns := [], harness := (true, "0074f50c262db339fa8bcf52c04da551c89762a080faa3b5211c943336a94a8f"), looks := true }, kinds := [], alts := [], laidByText := true, laidKinds := [.handle], laidTests := true, laidLooks := .later }
def FnInsertZCardSaid : Prop := Claim7.holds Tryd.pinned (.plain (OpenSpec.ofChange fnInsertZSpec)) fnInsertZCard

/-- THE TIED CARD OF 'laws.FnNoRoom'. -/
def fnNoRoomCard : Claim7 := { stood := { row := fnNoRoomRow, standIns := [], harness := (true, "0074f50c262db339fa8bcf52c04da551c89762a080faa3b5211c943336a94a8f"), looks := true }, kinds := [], alts := [], laidByText := true, laidKinds := [.handle], laidTests := true, laidLooks := .later }
def FnNoRoomCardSaid : Prop := Claim7.holds Tryd.pinned (.plain (OpenSpec.ofChange fnNoRoomSpec)) fnNoRoomCard

/-- THE TIED CARD OF 'laws.FnPlainZeros'. -/
def fnPlainZerosCard : Claim7 := { stood := { row := fnPlainZerosRow, standIns := [], harness := (true, "0074f50c262db339fa8bcf52c04da551c89762a080faa3b5211c943336a94a8f"), looks := true }, kinds := [], alts := [], laidByText := true, laidKinds := [.handle], laidTests := true, laidLooks := .later }
def FnPlainZerosCardSaid : Prop := Claim7.holds Tryd.pinned (.plain (OpenSpec.ofChange fnPlainZerosSpec)) fnPlainZerosCard

/-- THE TIED CARD OF 'laws.FnRoom'. -/
def fnRoomCard : Claim7 := { stood := { row := fnRoomRow, standIns := [], harness := (true, "0074f50c262db339fa8bcf52c04da551c89762a080faa3b5211c943336a94a8f"), looks := true }, kinds := [], alts := [], laidByText := true, laidKinds := [.handle], laidTests := true, laidLooks := .later }
def FnRoomCardSaid : Prop := Claim7.holds Tryd.pinned (.plain (OpenSpec.ofChange fnRoomSpec)) fnRoomCard

/-- THE SECOND FORM's CARD OF 'laws.FnSteps'. -/
def fnStepsUptoCard : Claim7 := { stood := { row := fnStepsUptoRow, standIns := [], harness := (true, "0074f50c262db339fa8bcf52c04da551c89762a080faa3b5211c943336a94a8f"), looks := true }, kinds := [], alts := [], laidByText := true, laidKinds := [.handle], laidTests := true, laidLooks := .later }
def FnStepsUptoCardSaid : Prop := Claim7.holds Tryd.pinned (.plain (OpenSpec.upto fnStepsSpec)) fnStepsUptoCard

/-- THE SECOND FORM's CARD OF 'laws.FnZInside'. -/
def fnZInsideUptoCard : Claim7 := { stood := { row := fnZInsideUptoRow, standIns := [], harness := (true, "0074f50c262db339fa8bcf52c04da551c89762a080faa3b5211c943336a94a8f"), looks := true }, kinds := [], alts := [], laidByText := true, laidKinds := [.handle], laidTests := true, laidLooks := .later }
def FnZInsideUptoCardSaid : Prop := Claim7.holds Tryd.pinned (.plain (OpenSpec.upto fnZInsideSpec)) fnZInsideUptoCard

/-- THE SECOND FORM's CARD OF 'laws.FnInsertZ'. -/
def fnInsertZUptoCard : Claim7 := { stood := { row := fnInsertZUptoRow, standIns := [], harness := (true, "0074f50c262db339fa8bcf52c04da551c89762a080faa3b5211c943336a94a8f"), looks := true }, kinds := [], alts := [], laidByText := true, laidKinds := [.handle], laidTests := true, laidLooks := .later }
def FnInsertZUptoCardSaid : Prop := Claim7.holds Tryd.pinned (.plain (OpenSpec.upto fnInsertZSpec)) fnInsertZUptoCard

/-- THE SECOND FORM's CARD OF 'laws.FnNoRoom'. -/
def fnNoRoomUptoCard : Claim7 := { stood := { row := fnNoRoomUptoRow, standIns := [], harness := (true, "0074f50c262db339fa8bcf52c04da551c89762a080faa3b5211c943336a94a8f"), looks := true }, kinds := [], alts := [], laidByText := true, laidKinds := [.handle], laidTests := true, laidLooks := .later }
def FnNoRoomUptoCardSaid : Prop := Claim7.holds Tryd.pinned (.plain (OpenSpec.upto fnNoRoomSpec)) fnNoRoomUptoCard

/-- THE SECOND FORM's CARD OF 'laws.FnPlainZeros'. -/
def fnPlainZerosUptoCard : Claim7 := { stood := { row := fnPlainZerosUptoRow, standIns := [], harness := (true, "0074f50c262db339fa8bcf52c04da551c89762a080faa3b5211c943336a94a8f"), looks := true }, kinds := [], alts := [], laidByText := true, laidKinds := [.handle], laidTests := true, laidLooks := .later }
def FnPlainZerosUptoCardSaid : Prop := Claim7.holds Tryd.pinned (.plain (OpenSpec.upto fnPlainZerosSpec)) fnPlainZerosUptoCard

/-- THE SECOND FORM's CARD OF 'laws.FnRoom'. -/
def fnRoomUptoCard : Claim7 := { stood := { row := fnRoomUptoRow, standIns := [], harness := (true, "0074f50c262db339fa8bcf52c04da551c89762a080faa3b5211c943336a94a8f"), looks := true }, kinds := [], alts := [], laidByText := true, laidKinds := [.handle], laidTests := true, laidLooks := .later }
def FnRoomUptoCardSaid : Prop := Claim7.holds Tryd.pinned (.plain (OpenSpec.upto fnRoomSpec)) fnRoomUptoCard
end Rows
end Go.Proofs.YtmddbfcghddacaaDoor

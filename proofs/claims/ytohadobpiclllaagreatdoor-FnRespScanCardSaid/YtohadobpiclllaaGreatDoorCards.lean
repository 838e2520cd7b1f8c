/-
  DERIVED. GIVEN WITH THE SEED: THE CARDS: each row of YtohadobpiclllaaGreatDoorRows.lean that lists a variable, with what it lists TIED to the program's text (the seventh form; the later family's looks); each row that meets fmt, with fmt's text TOLD by the authors' own Lean function (tested against real Go, not proved from fmt's source: count such statements apart). THE CARD IS WHAT COUNTS. Prove the row's statement (the work); the ties are given (YtohadobpiclllaaGreatDoorTie.lean); close each card by the builder's one call (the guide's Derived/Test/ToyasCard.lean, 'card_holds'). Laid BY PROGRAM, IN A SANDBOX (cutbox-door.mjs). By AI agents, Wed Nov 11 2026. No macro, syntax, notation, axiom, sorry.
-/
import Derived.Test.YtohadobpiclllaaGreatDoorRows
import GoSem.ClaimSeven
namespace Go.Proofs.YtohadobpiclllaaGreatDoor
namespace Rows

/-- THE TIED CARD OF 'laws.FnRespScan'. -/
def fnRespScanCard : Claim7 := { stood := { row := fnRespScanRow, standIns := [], harness := (true, "7b82c3a395c9aa3f821dfaf01b117a6ba8feeef6c15306a12db136a97d2d3230"), looks := true }, kinds := [], alts := [], laidByText := true, laidKinds := [.data, .data, .widerDeep, .widerDeep, .data, .data, .data, .data, .data, .sentinel, .sentinel, .pinned, .pinned], laidTests := true, laidLooks := .later }
def FnRespScanCardSaid : Prop := Claim7.holds Tryz.pinned (.plain (OpenSpec.ofChange fnRespScanSpec)) fnRespScanCard

/-- THE SECOND FORM's CARD OF 'laws.FnRespScan'. -/
def fnRespScanUptoCard : Claim7 := { stood := { row := fnRespScanUptoRow, standIns := [], harness := (true, "7b82c3a395c9aa3f821dfaf01b117a6ba8feeef6c15306a12db136a97d2d3230"), looks := true }, kinds := [], alts := [], laidByText := true, laidKinds := [.data, .data, .widerDeep, .widerDeep, .data, .data, .data, .data, .data, .sentinel, .sentinel, .pinned, .pinned], laidTests := true, laidLooks := .later }
def FnRespScanUptoCardSaid : Prop := Claim7.holds Tryz.pinned (.plain (OpenSpec.upto fnRespScanSpec)) fnRespScanUptoCard
end Rows
end Go.Proofs.YtohadobpiclllaaGreatDoor

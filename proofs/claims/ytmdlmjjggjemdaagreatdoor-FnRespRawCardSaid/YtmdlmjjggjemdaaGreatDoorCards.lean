/-
  DERIVED. GIVEN WITH THE SEED: THE CARDS: each row of YtmdlmjjggjemdaaGreatDoorRows.lean that lists a variable, with what it lists TIED to the program's text (the seventh form; the later family's looks); each row that meets fmt, with fmt's text TOLD by the authors' own Lean function (tested against real Go, not proved from fmt's source: count such statements apart). THE CARD IS WHAT COUNTS. Prove the row's statement (the work); the ties are given (YtmdlmjjggjemdaaGreatDoorTie.lean); close each card by the builder's one call (the guide's Derived/Test/ToyasCard.lean, 'card_holds'). Laid BY PROGRAM, IN A SANDBOX (cutbox-door.mjs). By AI agents, Wed Nov 11 2026. No macro, syntax, notation, axiom, sorry.
-/
import Derived.Test.YtmdlmjjggjemdaaGreatDoorRows
import GoSem.ClaimSeven
namespace Go.Proofs.YtmdlmjjggjemdaaGreatDoor
namespace Rows

/-- THE TIED CARD OF 'laws.FnRespRaw'. -/
def fnRespRawCard : Claim7 := { stood := { row := fnRespRawRow, standIns := [], harness := (true, "b4e71316d30b39df4600a3178a973e4e3ba71b9e35d34427ae3604ec5a4c9045"), looks := true }, kinds := [], alts := [], laidByText := true, laidKinds := [.data, .data, .data, .data, .sentinel, .sentinel, .pinned, .pinned], laidTests := true, laidLooks := .later }
def FnRespRawCardSaid : Prop := Claim7.holds Tryz.pinned (.plain (OpenSpec.ofChange fnRespRawSpec)) fnRespRawCard

/-- THE SECOND FORM's CARD OF 'laws.FnRespRaw'. -/
def fnRespRawUptoCard : Claim7 := { stood := { row := fnRespRawUptoRow, standIns := [], harness := (true, "b4e71316d30b39df4600a3178a973e4e3ba71b9e35d34427ae3604ec5a4c9045"), looks := true }, kinds := [], alts := [], laidByText := true, laidKinds := [.data, .data, .data, .data, .sentinel, .sentinel, .pinned, .pinned], laidTests := true, laidLooks := .later }
def FnRespRawUptoCardSaid : Prop := Claim7.holds Tryz.pinned (.plain (OpenSpec.upto fnRespRawSpec)) fnRespRawUptoCard
end Rows
end Go.Proofs.YtmdlmjjggjemdaaGreatDoor

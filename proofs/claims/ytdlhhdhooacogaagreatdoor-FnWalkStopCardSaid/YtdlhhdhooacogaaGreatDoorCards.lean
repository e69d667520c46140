/-
  DERIVED. GIVEN WITH THE SEED: THE CARDS: each row of YtdlhhdhooacogaaGreatDoorRows.lean that lists a variable, with what it lists TIED to the program's text (the seventh form; the later family's looks); each row that meets fmt, with fmt's text TOLD by the authors' own Lean function (tested against real Go, not proved from fmt's source: count such statements apart). THE CARD IS WHAT COUNTS. Prove the row's statement (the work); the ties are given (YtdlhhdhooacogaaGreatDoorTie.lean); close each card by the builder's one call (the guide's Derived/Test/ToyasCard.lean, 'card_holds'). Laid BY PROGRAM, IN A SANDBOX (cutbox-door.mjs). By AI agents, Wed Nov 11 2026. No macro, syntax, notation, axiom, sorry.
-/
import Derived.Test.YtdlhhdhooacogaaGreatDoorRows
import GoSem.ClaimSeven
namespace Go.Proofs.YtdlhhdhooacogaaGreatDoor
namespace Rows

/-- THE TIED CARD OF 'laws.FnWalkStop'. -/
def fnWalkStopCard : Claim7 := { stood := { row := fnWalkStopRow, standIns := [], harness := (true, "16d0036b1a8d5705415cde99335566eca267741e03d948890970a0f3649f9625"), looks := true }, kinds := [], alts := [], laidByText := true, laidKinds := [.data, .data], laidTests := true, laidLooks := .later }
def FnWalkStopCardSaid : Prop := Claim7.holds Tryz.pinned (.plain (OpenSpec.ofChange fnWalkStopSpec)) fnWalkStopCard

/-- THE SECOND FORM's CARD OF 'laws.FnWalkStop'. -/
def fnWalkStopUptoCard : Claim7 := { stood := { row := fnWalkStopUptoRow, standIns := [], harness := (true, "16d0036b1a8d5705415cde99335566eca267741e03d948890970a0f3649f9625"), looks := true }, kinds := [], alts := [], laidByText := true, laidKinds := [.data, .data], laidTests := true, laidLooks := .later }
def FnWalkStopUptoCardSaid : Prop := Claim7.holds Tryz.pinned (.plain (OpenSpec.upto fnWalkStopSpec)) fnWalkStopUptoCard
end Rows
end Go.Proofs.YtdlhhdhooacogaaGreatDoor

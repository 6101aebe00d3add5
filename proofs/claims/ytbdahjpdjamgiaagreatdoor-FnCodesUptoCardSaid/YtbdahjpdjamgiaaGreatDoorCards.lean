/-
  DERIVED. GIVEN WITH THE SEED: THE CARDS: each row of YtbdahjpdjamgiaaGreatDoorRows.lean that lists a variable, with what it lists TIED to the program's text (the seventh form; the later family's looks); each row that meets fmt, with fmt's text TOLD by the authors' own Lean function (tested against real Go, not proved from fmt's source: count such statements apart). THE CARD IS WHAT COUNTS. Prove the row's statement (the work); the ties are given (YtbdahjpdjamgiaaGreatDoorTie.lean); close each card by the builder's one call (the guide's Derived/Test/ToyasCard.lean, 'card_holds'). Laid BY PROGRAM, IN A SANDBOX (cutbox-door.mjs). By AI agents, Wed Nov 11 2026. No macro, syntax, notation, axiom, sorry.
-/
import Derived.Test.YtbdahjpdjamgiaaGreatDoorRows
import GoSem.ClaimSeven
namespace Go.Proofs.YtbdahjpdjamgiaaGreatDoor
namespace Rows

/-- THE TIED CARD OF 'laws.FnCodes'. -/
def fnCodesCard : Claim7 := { stood := { row := fnCodesRow, standIns := [], harness := (true, "e1ebb8c930ed876a2056d5bd1666a6cb953a721204777ff11ad693eaa1922fa7"), looks := true }, kinds := [], alts := [], laidByText := true, laidKinds := [.sentinel, .sentinel, .sentinel], laidTests := true, laidLooks := .later }
def FnCodesCardSaid : Prop := Claim7.holds Tryz.pinned (.plain (OpenSpec.ofChange fnCodesSpec)) fnCodesCard

/-- THE SECOND FORM's CARD OF 'laws.FnCodes'. -/
def fnCodesUptoCard : Claim7 := { stood := { row := fnCodesUptoRow, standIns := [], harness := (true, "e1ebb8c930ed876a2056d5bd1666a6cb953a721204777ff11ad693eaa1922fa7"), looks := true }, kinds := [], alts := [], laidByText := true, laidKinds := [.sentinel, .sentinel, .sentinel], laidTests := true, laidLooks := .later }
def FnCodesUptoCardSaid : Prop := Claim7.holds Tryz.pinned (.plain (OpenSpec.upto fnCodesSpec)) fnCodesUptoCard
end Rows
end Go.Proofs.YtbdahjpdjamgiaaGreatDoor

/-
  DERIVED. GIVEN WITH THE SEED: THE CARDS: each row of YtkbadfljmbeciaaGreatDoorRows.lean that lists a variable, with what it lists TIED to the program's text (the seventh form; the later family's looks); each row that meets fmt, with fmt's text TOLD by the authors' own Lean function (tested against real Go, not proved from fmt's source: count such statements apart). THE CARD IS WHAT COUNTS. Prove the row's statement (the work); the ties are given (YtkbadfljmbeciaaGreatDoorTie.lean); close each card by the builder's one call (the guide's Derived/Test/ToyasCard.lean, 'card_holds'). Laid BY PROGRAM, IN A SANDBOX (cutbox-door.mjs). By AI agents, Wed Nov 11 2026. No macro, syntax, notation, axiom, sorry.
-/
import Derived.Test.YtkbadfljmbeciaaGreatDoorRows
import GoSem.ClaimSeven
namespace Go.Proofs.YtkbadfljmbeciaaGreatDoor
namespace Rows

/-- THE TIED CARD OF 'laws.FnCodes'. -/
def fnCodesCard : Claim7 := { stood := { row := fnCodesRow, standIns := [], harness := (true, "e096afc1b84ae0ebee2cefa9adbd1921a0bd9e0733125bbb4b0c39918dc206af"), looks := true }, kinds := [], alts := [], laidByText := true, laidKinds := [.sentinel, .sentinel, .sentinel], laidTests := true, laidLooks := .later }
def FnCodesCardSaid : Prop := Claim7.holds Tryz.pinned (.plain (OpenSpec.ofChange fnCodesSpec)) fnCodesCard

/-- THE TIED CARD OF 'laws.FnCodeBack'. -/
def fnCodeBackCard : Claim7 := { stood := { row := fnCodeBackRow, standIns := [], harness := (true, "e096afc1b84ae0ebee2cefa9adbd1921a0bd9e0733125bbb4b0c39918dc206af"), looks := true }, kinds := [], alts := [], laidByText := true, laidKinds := [.sentinel, .sentinel, .sentinel], laidTests := true, laidLooks := .later }
def FnCodeBackCardSaid : Prop := Claim7.holds Tryz.pinned (.plain (OpenSpec.ofChange fnCodeBackSpec)) fnCodeBackCard

/-- THE SECOND FORM's CARD OF 'laws.FnCodes'. -/
def fnCodesUptoCard : Claim7 := { stood := { row := fnCodesUptoRow, standIns := [], harness := (true, "e096afc1b84ae0ebee2cefa9adbd1921a0bd9e0733125bbb4b0c39918dc206af"), looks := true }, kinds := [], alts := [], laidByText := true, laidKinds := [.sentinel, .sentinel, .sentinel], laidTests := true, laidLooks := .later }
def FnCodesUptoCardSaid : Prop := Claim7.holds Tryz.pinned (.plain (OpenSpec.upto fnCodesSpec)) fnCodesUptoCard

/-- THE SECOND FORM's CARD OF 'laws.FnCodeBack'. -/
def fnCodeBackUptoCard : Claim7 := { stood := { row := fnCodeBackUptoRow, standIns := [], harness := (true, "e096afc1b84ae0ebee2cefa9adbd1921a0bd9e0733125bbb4b0c39918dc206af"), looks := true }, kinds := [], alts := [], laidByText := true, laidKinds := [.sentinel, .sentinel, .sentinel], laidTests := true, laidLooks := .later }
def FnCodeBackUptoCardSaid : Prop := Claim7.holds Tryz.pinned (.plain (OpenSpec.upto fnCodeBackSpec)) fnCodeBackUptoCard
end Rows
end Go.Proofs.YtkbadfljmbeciaaGreatDoor

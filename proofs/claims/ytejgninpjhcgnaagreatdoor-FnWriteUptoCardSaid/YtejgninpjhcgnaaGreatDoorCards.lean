/-
  DERIVED. GIVEN WITH THE SEED: THE CARDS: each row of YtejgninpjhcgnaaGreatDoorRows.lean that lists a variable, with what it lists TIED to the program's text (the seventh form; the later family's looks); each row that meets fmt, with fmt's text TOLD by the authors' own Lean function (tested against real Go, not proved from fmt's source: count such statements apart). THE CARD IS WHAT COUNTS. Prove the row's statement (the work); the ties are given (YtejgninpjhcgnaaGreatDoorTie.lean); close each card by the builder's one call (the guide's Derived/Test/ToyasCard.lean, 'card_holds'). Laid BY PROGRAM, IN A SANDBOX (cutbox-door.mjs). By AI agents, Wed Nov 11 2026. No macro, syntax, notation, axiom, sorry.
-/
import Derived.Test.YtejgninpjhcgnaaGreatDoorRows
import GoSem.ClaimSeven
namespace Go.Proofs.YtejgninpjhcgnaaGreatDoor
namespace Rows

/-- THE TIED CARD OF 'laws.FnRead'. -/
def fnReadCard : Claim7 := { stood := { row := fnReadRow, standIns := [], harness := (true, "c150617c4088e7d3655567b67d426ccda567b0d267cc74b58acd312fe1fa819a"), looks := true }, kinds := [], alts := [], laidByText := true, laidKinds := [.sentinel, .sentinel, .sentinel], laidTests := true, laidLooks := .later }
def FnReadCardSaid : Prop := Claim7.holds Tryz.pinned (.plain (OpenSpec.ofChange fnReadSpec)) fnReadCard

/-- THE TIED CARD OF 'laws.FnWrite'. -/
def fnWriteCard : Claim7 := { stood := { row := fnWriteRow, standIns := [], harness := (true, "c150617c4088e7d3655567b67d426ccda567b0d267cc74b58acd312fe1fa819a"), looks := true }, kinds := [], alts := [], laidByText := true, laidKinds := [.sentinel], laidTests := true, laidLooks := .later }
def FnWriteCardSaid : Prop := Claim7.holds Tryz.pinned (.plain (OpenSpec.ofChange fnWriteSpec)) fnWriteCard

/-- THE SECOND FORM's CARD OF 'laws.FnRead'. -/
def fnReadUptoCard : Claim7 := { stood := { row := fnReadUptoRow, standIns := [], harness := (true, "c150617c4088e7d3655567b67d426ccda567b0d267cc74b58acd312fe1fa819a"), looks := true }, kinds := [], alts := [], laidByText := true, laidKinds := [.sentinel, .sentinel, .sentinel], laidTests := true, laidLooks := .later }
def FnReadUptoCardSaid : Prop := Claim7.holds Tryz.pinned (.plain (OpenSpec.upto fnReadSpec)) fnReadUptoCard

/-- THE SECOND FORM's CARD OF 'laws.FnWrite'. -/
def fnWriteUptoCard : Claim7 := { stood := { row := fnWriteUptoRow, standIns := [], harness := (true, "c150617c4088e7d3655567b67d426ccda567b0d267cc74b58acd312fe1fa819a"), looks := true }, kinds := [], alts := [], laidByText := true, laidKinds := [.sentinel], laidTests := true, laidLooks := .later }
def FnWriteUptoCardSaid : Prop := Claim7.holds Tryz.pinned (.plain (OpenSpec.upto fnWriteSpec)) fnWriteUptoCard
end Rows
end Go.Proofs.YtejgninpjhcgnaaGreatDoor

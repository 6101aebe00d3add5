/-
  DERIVED. GIVEN WITH THE SEED: THE CARDS: each row of YtfpikpbolgodcaaDoorRows.lean that lists a variable, with what it lists TIED to the program's text (the seventh form; the later family's looks); each row that meets fmt, with fmt's text TOLD by the authors' own Lean function (tested against real Go, not proved from fmt's source: count such statements apart). THE CARD IS WHAT COUNTS. Prove the row's statement (the work); the ties are given (YtfpikpbolgodcaaDoorTie.lean); close each card by the builder's one call (the guide's Derived/Test/ToyasCard.lean, 'card_holds'). Laid BY PROGRAM, IN A SANDBOX (cutbox-door.mjs). By AI agents, Wed Nov 11 2026. No macro, syntax, notation, axiom, sorry.
-/
import Derived.Test.YtfpikpbolgodcaaDoorRows
import GoSem.ClaimSeven
namespace Go.Proofs.YtfpikpbolgodcaaDoor
namespace Rows

/-- THE TIED CARD OF 'laws.FnReadCode'. -/
def fnReadCodeCard : Claim7 := { stood := { row := fnReadCodeRow, standIns := [], harness := (true, "2a0e13a29c26b4b45534b49ddf08175998ed914ea268f59bc7f23ee784b5183d"), looks := true }, kinds := [], alts := [], laidByText := true, laidKinds := [.sentinel, .sentinel, .sentinel], laidTests := true, laidLooks := .later }
def FnReadCodeCardSaid : Prop := Claim7.holds Tryd.pinned (.plain (OpenSpec.ofChange fnReadCodeSpec)) fnReadCodeCard

/-- THE SECOND FORM's CARD OF 'laws.FnReadCode'. -/
def fnReadCodeUptoCard : Claim7 := { stood := { row := fnReadCodeUptoRow, standIns := [], harness := (true, "2a0e13a29c26b4b45534b49ddf08175998ed914ea268f59bc7f23ee784b5183d"), looks := true }, kinds := [], alts := [], laidByText := true, laidKinds := [.sentinel, .sentinel, .sentinel], laidTests := true, laidLooks := .later }
def FnReadCodeUptoCardSaid : Prop := Claim7.holds Tryd.pinned (.plain (OpenSpec.upto fnReadCodeSpec)) fnReadCodeUptoCard
end Rows
end Go.Proofs.YtfpikpbolgodcaaDoor

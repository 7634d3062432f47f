/-
  DERIVED. GIVEN WITH THE SEED: THE CARDS: each row of YtlhncphipfkkjaaGreatDoorRows.lean that lists a variable, with what it lists TIED to the program's text (the seventh form; the later family's looks); each row that meets fmt, with fmt's text TOLD by the authors' own Lean function (tested against real Go, not proved from fmt's source: count such statements apart). THE CARD IS WHAT COUNTS. Prove the row's statement (the work); the ties are given (YtlhncphipfkkjaaGreatDoorTie.lean); close each card by the builder's one call (the guide's Derived/Test/ToyasCard.lean, 'card_holds'). Laid BY PROGRAM, IN A SANDBOX (cutbox-door.mjs). By AI agents, Wed Nov 11 2026. No macro, syntax, notation, axiom, sorry.
-/
import Derived.Test.YtlhncphipfkkjaaGreatDoorRows
import GoSem.ClaimSeven
namespace Go.Proofs.YtlhncphipfkkjaaGreatDoor
namespace Rows

/-- THE TIED CARD OF 'laws.FnLayerValid'. -/
def fnLayerValidCard : Claim7 := { stood := { row := fnLayerValidRow, standIns := [], harness := (true, "d1b1b43cc6bbec35b558d7b212acb812ec84219ed2ac98cb953fe0edaf56e299"), looks := true }, kinds := [], alts := [], laidByText := true, laidKinds := [.data, .data, .data, .sentinel, .sentinel, .sentinel, .sentinel, .sentinel, .sentinel, .sentinel], laidTests := true, laidLooks := .later }
def FnLayerValidCardSaid : Prop := Claim7.holds Tryz.pinned (.plain (OpenSpec.ofChange fnLayerValidSpec)) fnLayerValidCard

/-- THE SECOND FORM's CARD OF 'laws.FnLayerValid'. -/
def fnLayerValidUptoCard : Claim7 := { stood := { row := fnLayerValidUptoRow, standIns := [], harness := (true, "d1b1b43cc6bbec35b558d7b212acb812ec84219ed2ac98cb953fe0edaf56e299"), looks := true }, kinds := [], alts := [], laidByText := true, laidKinds := [.data, .data, .data, .sentinel, .sentinel, .sentinel, .sentinel, .sentinel, .sentinel, .sentinel], laidTests := true, laidLooks := .later }
def FnLayerValidUptoCardSaid : Prop := Claim7.holds Tryz.pinned (.plain (OpenSpec.upto fnLayerValidSpec)) fnLayerValidUptoCard
end Rows
end Go.Proofs.YtlhncphipfkkjaaGreatDoor

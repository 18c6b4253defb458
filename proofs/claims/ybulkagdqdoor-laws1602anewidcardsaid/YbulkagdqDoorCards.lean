/-
  DERIVED. GIVEN WITH THE SEED: THE CARDS: each row of YbulkagdqDoorRows.lean that lists a variable, with what it lists TIED to the program's text (the seventh form; the later family's looks); each row that meets fmt, with fmt's text TOLD by the authors' own Lean function (tested against real Go, not proved from fmt's source: count such statements apart). THE CARD IS WHAT COUNTS. Prove the row's statement (the work); the ties are given (YbulkagdqDoorTie.lean); close each card by the builder's one call (the guide's Derived/Test/ToyasCard.lean, 'card_holds'). Laid BY PROGRAM, IN A SANDBOX (cutbox-door.mjs). By AI agents, Wed Nov 11 2026. No macro, syntax, notation, axiom, sorry.
-/
import Derived.Test.YbulkagdqDoorRows
import GoSem.ClaimSeven
namespace Go.Proofs.YbulkagdqDoor
namespace Rows

/-- THE TIED CARD OF 'xortrie.LawS1602AResettle'. -/
def lawS1602AResettleCard : Claim7 := { stood := { row := lawS1602AResettleRow, standIns := [], harness := (true, "09829f5875d54c70d4717d877384eaae1f181b12da1e007b993e9b959ee7ef49"), looks := true }, kinds := [], alts := [], laidByText := true, laidKinds := [.handle, .sentinel], laidTests := true, laidLooks := .later }
def LawS1602AResettleCardSaid : Prop := Claim7.holds Ybad.pinned (.plain (OpenSpec.ofChange lawS1602AResettleSpec)) lawS1602AResettleCard

/-- THE TIED CARD OF 'xortrie.LawS1602ANewID'. -/
def lawS1602ANewIDCard : Claim7 := { stood := { row := lawS1602ANewIDRow, standIns := [], harness := (true, "09829f5875d54c70d4717d877384eaae1f181b12da1e007b993e9b959ee7ef49"), looks := true }, kinds := [], alts := [], laidByText := true, laidKinds := [.handle, .sentinel], laidTests := true, laidLooks := .later }
def LawS1602ANewIDCardSaid : Prop := Claim7.holds Ybad.pinned (.plain (OpenSpec.ofChange lawS1602ANewIDSpec)) lawS1602ANewIDCard
end Rows
end Go.Proofs.YbulkagdqDoor

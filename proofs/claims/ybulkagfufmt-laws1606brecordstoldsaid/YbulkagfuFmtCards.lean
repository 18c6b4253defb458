/-
  DERIVED. GIVEN WITH THE SEED: THE CARDS: each row of YbulkagfuFmtRows.lean that lists a variable, with what it lists TIED to the program's text (the seventh form; the later family's looks); each row that meets fmt, with fmt's text TOLD by the authors' own Lean function (tested against real Go, not proved from fmt's source: count such statements apart). THE CARD IS WHAT COUNTS. Prove the row's statement (the work); the ties are given (YbulkagfuFmtTie.lean); close each card by the builder's one call (the guide's Derived/Test/ToyasCard.lean, 'card_holds'). Laid BY PROGRAM, IN A SANDBOX (cutbox-door.mjs). By AI agents, Wed Nov 11 2026. No macro, syntax, notation, axiom, sorry.
-/
import Derived.Test.YbulkagfuFmtRows
import GoSem.ClaimSeven
namespace Go.Proofs.YbulkagfuFmt
namespace Rows

/-- THE TOLD CARD OF 'anteclock.LawS1606BRecords'. -/
def lawS1606BRecordsCard : Claim7 := { stood := { row := lawS1606BRecordsRow, standIns := [], harness := (true, "9f0c4946c46e0d84a479b7482d18c8f360ea800fde92123117f3756a77fa1416"), looks := false }, told := true, goes := false }
def LawS1606BRecordsToldSaid : Prop := Claim7.holds Ybaf.pinned (.plain (OpenSpec.ofChange lawS1606BRecordsSpec)) lawS1606BRecordsCard
/-- ITS FALSE NEIGHBOUR. Refute it at one input. -/
def LawS1606BRecordsToldWrongFalsely : Prop := Claim7.holds Ybaf.pinned (.plain (OpenSpec.ofChange lawS1606BRecordsWrong)) lawS1606BRecordsCard
end Rows
end Go.Proofs.YbulkagfuFmt

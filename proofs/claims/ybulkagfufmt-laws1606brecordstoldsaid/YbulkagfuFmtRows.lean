/-
  No cell of these rows narrows 'for every input' (looked for: loops, veiled, ifaces, maps, wideKeys, modest, calm, conditions, laid).
  DERIVED. THE GIVEN ROWS OF THIS SEAT. 1 by the template 'for every input the law returns true; each argument reads behind the call as it read before'; 0 by the template 'total and deterministic' (their statements: YbulkagfuFmtTotals.lean).
  GIVEN WITH THE SEED: the statements are not yours to turn. If you find one false, say at which input.
  Laid BY PROGRAM, IN A SANDBOX (cutbox-rows.mjs): the forced cells as the released guide's own fill.sh prints them over the translation 32b020a139777bfe… (all of the seat's roots in one cut). By AI agents, Wed Nov 11 2026. No macro, syntax, notation, axiom, sorry.
-/
import Derived.Test.YbulkagfuFmtChecked
import GoSem.Claim
import GoSem.ClaimJoined
import GoSem.ClaimMapViews
import Derived.JoinedTies
import Derived.KernelRfl
namespace Go.Proofs.YbulkagfuFmt
/- THE CELL 'sum', in the pinned program and in every row, IS THE sha256 OF THE DUMP (.gsa) THAT YbulkagfuFmtProg.lean LOADS. Nothing in Lean hashes anything: it is a label: what it is worth is what the hold of that sum in a sandbox is worth. -/
noncomputable def Ybaf.pinned : Pinned := { name := "ybulkagfufmt", sum := "32b020a139777bfe9568943ca6ad8ec381209c6655555696437e845914fc362a", checked := Ybaf.checked }
namespace Rows
def none {H : Type} : Left H := { results := [], args := [] }

/-- 'anteclock.LawS1606BRecords': WHATEVER THE INPUT: true; the input reads as it did. -/
def lawS1606BRecordsSpec : ChangeSpec := { name := "lawS1606BRecords", fn := fun _ => fun
  | [d1, d2, d3, d4, d5, d6] => { results := [.lit (.bool true)], args := [d1, d2, d3, d4, d5, d6] }
  | _ => none }
def lawS1606BRecordsRow : OpenClaim := { program := "ybulkagfufmt", sum := "32b020a139777bfe9568943ca6ad8ec381209c6655555696437e845914fc362a", func := "example.com/anteclock/anteclock.LawS1606BRecords", spec := "lawS1606BRecords", stops := ["fmt.errorf"], inPlace := ["(*internal/sync.Mutex).Lock", "internal/race.Disable", "sync/atomic.CompareAndSwapInt32", "internal/race.Enable", "internal/race.Acquire", "(*internal/sync.Mutex).lockSlow", "internal/sync.runtime_canSpin", "internal/sync.runtime_doSpin", "internal/sync.throw", "internal/sync.runtime_nanotime", "internal/sync.runtime_SemacquireMutex", "sync/atomic.AddInt32", "(*internal/sync.Mutex).Unlock", "internal/race.ReleaseMerge", "(*internal/sync.Mutex).unlockSlow", "internal/sync.fatal", "internal/sync.runtime_Semrelease", "fmt.errorf"], plainKeys := false, apart := false }
/-- NO THEOREM (fmt's text is open here; it may be false): for the released tool's asking of the row's closed facts alone. THE STATEMENT IS 'LawS1606BRecordsToldSaid' (YbulkagfuFmtCards.lean). -/
def LawS1606BRecordsFormAsk : Prop := lawS1606BRecordsRow.holds Ybaf.pinned (OpenSpec.ofChange lawS1606BRecordsSpec)

/-- ITS FALSE NEIGHBOUR: 'it returns false'. Refute it at one input. -/
def lawS1606BRecordsWrong : ChangeSpec := { name := "lawS1606BRecords", fn := fun _ => fun
  | [d1, d2, d3, d4, d5, d6] => { results := [.lit (.bool false)], args := [d1, d2, d3, d4, d5, d6] }
  | _ => none }
def LawS1606BRecordsWrongFormAsk : Prop := lawS1606BRecordsRow.holds Ybaf.pinned (OpenSpec.ofChange lawS1606BRecordsWrong)

end Rows
end Go.Proofs.YbulkagfuFmt

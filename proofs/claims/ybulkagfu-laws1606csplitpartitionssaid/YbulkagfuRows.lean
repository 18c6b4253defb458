/-
  No cell of these rows narrows 'for every input' (looked for: loops, veiled, ifaces, maps, wideKeys, modest, calm, conditions, laid).
  DERIVED. THE GIVEN ROWS OF THIS SEAT. 2 by the template 'for every input the law returns true; each argument reads behind the call as it read before'; 0 by the template 'total and deterministic' (their statements: YbulkagfuTotals.lean).
  GIVEN WITH THE SEED: the statements are not yours to turn. If you find one false, say at which input.
  Laid BY PROGRAM, IN A SANDBOX (cutbox-rows.mjs): the forced cells as the released guide's own fill.sh prints them over the translation 8d7c29510341b172… (all of the seat's roots in one cut). By AI agents, Wed Nov 11 2026. No macro, syntax, notation, axiom, sorry.
-/
import Derived.Test.YbulkagfuChecked
import GoSem.Claim
import GoSem.ClaimJoined
import GoSem.ClaimMapViews
import Derived.JoinedTies
import Derived.KernelRfl
namespace Go.Proofs.Ybulkagfu
/- THE CELL 'sum', in the pinned program and in every row, IS THE sha256 OF THE DUMP (.gsa) THAT YbulkagfuProg.lean LOADS. Nothing in Lean hashes anything: it is a label: what it is worth is what the hold of that sum in a sandbox is worth. -/
noncomputable def Yba.pinned : Pinned := { name := "ybulkagfu", sum := "8d7c29510341b17294a25432741d1f78c035e8bd783a08797b676b9904906c78", checked := Yba.checked }
namespace Rows
def none {H : Type} : Left H := { results := [], args := [] }

/-- 'anteclock.LawS1606AMove': WHATEVER THE INPUT: true; the input reads as it did. -/
def lawS1606AMoveSpec : ChangeSpec := { name := "lawS1606AMove", fn := fun _ => fun
  | [d1, d2, d3, d4, d5, d6, d7, d8] => { results := [.lit (.bool true)], args := [d1, d2, d3, d4, d5, d6, d7, d8] }
  | _ => none }
def lawS1606AMoveRow : OpenClaim := { program := "ybulkagfu", sum := "8d7c29510341b17294a25432741d1f78c035e8bd783a08797b676b9904906c78", func := "example.com/anteclock/anteclock.LawS1606AMove", spec := "lawS1606AMove", apart := false }
def LawS1606AMoveSaid : Prop := lawS1606AMoveRow.holds Yba.pinned (OpenSpec.ofChange lawS1606AMoveSpec)

/-- ITS FALSE NEIGHBOUR: 'it returns false'. Refute it at one input. -/
def lawS1606AMoveWrong : ChangeSpec := { name := "lawS1606AMove", fn := fun _ => fun
  | [d1, d2, d3, d4, d5, d6, d7, d8] => { results := [.lit (.bool false)], args := [d1, d2, d3, d4, d5, d6, d7, d8] }
  | _ => none }
def LawS1606AMoveWrongFalsely : Prop := lawS1606AMoveRow.holds Yba.pinned (OpenSpec.ofChange lawS1606AMoveWrong)

/-- 'anteclock.LawS1606CSplitPartitions': WHATEVER THE INPUT: true; the input reads as it did. -/
def lawS1606CSplitPartitionsSpec : ChangeSpec := { name := "lawS1606CSplitPartitions", fn := fun _ => fun
  | [d1, d2, d3] => { results := [.lit (.bool true)], args := [d1, d2, d3] }
  | _ => none }
def lawS1606CSplitPartitionsRow : OpenClaim := { program := "ybulkagfu", sum := "8d7c29510341b17294a25432741d1f78c035e8bd783a08797b676b9904906c78", func := "example.com/anteclock/anteclock.LawS1606CSplitPartitions", spec := "lawS1606CSplitPartitions", recurses := true, apart := false }
def LawS1606CSplitPartitionsSaid : Prop := lawS1606CSplitPartitionsRow.holds Yba.pinned (OpenSpec.ofChange lawS1606CSplitPartitionsSpec)

/-- ITS FALSE NEIGHBOUR: 'it returns false'. Refute it at one input. -/
def lawS1606CSplitPartitionsWrong : ChangeSpec := { name := "lawS1606CSplitPartitions", fn := fun _ => fun
  | [d1, d2, d3] => { results := [.lit (.bool false)], args := [d1, d2, d3] }
  | _ => none }
def LawS1606CSplitPartitionsWrongFalsely : Prop := lawS1606CSplitPartitionsRow.holds Yba.pinned (OpenSpec.ofChange lawS1606CSplitPartitionsWrong)

end Rows
end Go.Proofs.Ybulkagfu

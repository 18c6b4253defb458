/-
  No cell of these rows narrows 'for every input' (looked for: loops, veiled, ifaces, maps, wideKeys, modest, calm, conditions, laid).
  DERIVED. THE GIVEN ROWS OF THIS SEAT. 4 by the template 'for every input the law returns true; each argument reads behind the call as it read before'; 0 by the template 'total and deterministic' (their statements: YbulkaggiTotals.lean).
  GIVEN WITH THE SEED: the statements are not yours to turn. If you find one false, say at which input.
  Laid BY PROGRAM, IN A SANDBOX (cutbox-rows.mjs): the forced cells as the released guide's own fill.sh prints them over the translation ba62a0bf3c8f1257… (all of the seat's roots in one cut). By AI agents, Wed Nov 11 2026. No macro, syntax, notation, axiom, sorry.
-/
import Derived.Test.YbulkaggiChecked
import GoSem.Claim
import GoSem.ClaimJoined
import GoSem.ClaimMapViews
import Derived.JoinedTies
import Derived.KernelRfl
namespace Go.Proofs.Ybulkaggi
/- THE CELL 'sum', in the pinned program and in every row, IS THE sha256 OF THE DUMP (.gsa) THAT YbulkaggiProg.lean LOADS. Nothing in Lean hashes anything: it is a label: what it is worth is what the hold of that sum in a sandbox is worth. -/
noncomputable def Yba.pinned : Pinned := { name := "ybulkaggi", sum := "ba62a0bf3c8f1257930b41a5f840a2919fa5eb3e58de5c85c4fc9c553c00ed0b", checked := Yba.checked }
namespace Rows
def none {H : Type} : Left H := { results := [], args := [] }

/-- 'anomaly.LawS1607AExact': WHATEVER THE INPUT: true; the input reads as it did. -/
def lawS1607AExactSpec : ChangeSpec := { name := "lawS1607AExact", fn := fun _ => fun
  | [d1, d2] => { results := [.lit (.bool true)], args := [d1, d2] }
  | _ => none }
def lawS1607AExactRow : OpenClaim := { program := "ybulkaggi", sum := "ba62a0bf3c8f1257930b41a5f840a2919fa5eb3e58de5c85c4fc9c553c00ed0b", func := "example.com/interlock/interlock/internal/anomaly.LawS1607AExact", spec := "lawS1607AExact", unfollowed := true, recurses := true, apart := false }
def LawS1607AExactSaid : Prop := lawS1607AExactRow.holds Yba.pinned (OpenSpec.ofChange lawS1607AExactSpec)

/-- ITS FALSE NEIGHBOUR: 'it returns false'. Refute it at one input. -/
def lawS1607AExactWrong : ChangeSpec := { name := "lawS1607AExact", fn := fun _ => fun
  | [d1, d2] => { results := [.lit (.bool false)], args := [d1, d2] }
  | _ => none }
def LawS1607AExactWrongFalsely : Prop := lawS1607AExactRow.holds Yba.pinned (OpenSpec.ofChange lawS1607AExactWrong)

/-- 'anomaly.LawS1607AShape': WHATEVER THE INPUT: true; the input reads as it did. -/
def lawS1607AShapeSpec : ChangeSpec := { name := "lawS1607AShape", fn := fun _ => fun
  | [d1, d2] => { results := [.lit (.bool true)], args := [d1, d2] }
  | _ => none }
def lawS1607AShapeRow : OpenClaim := { program := "ybulkaggi", sum := "ba62a0bf3c8f1257930b41a5f840a2919fa5eb3e58de5c85c4fc9c553c00ed0b", func := "example.com/interlock/interlock/internal/anomaly.LawS1607AShape", spec := "lawS1607AShape", unfollowed := true, recurses := true, apart := false }
def LawS1607AShapeSaid : Prop := lawS1607AShapeRow.holds Yba.pinned (OpenSpec.ofChange lawS1607AShapeSpec)

/-- ITS FALSE NEIGHBOUR: 'it returns false'. Refute it at one input. -/
def lawS1607AShapeWrong : ChangeSpec := { name := "lawS1607AShape", fn := fun _ => fun
  | [d1, d2] => { results := [.lit (.bool false)], args := [d1, d2] }
  | _ => none }
def LawS1607AShapeWrongFalsely : Prop := lawS1607AShapeRow.holds Yba.pinned (OpenSpec.ofChange lawS1607AShapeWrong)

/-- 'anomaly.LawS1607BModel': WHATEVER THE INPUT: true; the input reads as it did. -/
def lawS1607BModelSpec : ChangeSpec := { name := "lawS1607BModel", fn := fun _ => fun
  | [d] => { results := [.lit (.bool true)], args := [d] }
  | _ => none }
def lawS1607BModelRow : OpenClaim := { program := "ybulkaggi", sum := "ba62a0bf3c8f1257930b41a5f840a2919fa5eb3e58de5c85c4fc9c553c00ed0b", func := "example.com/interlock/interlock/internal/anomaly.LawS1607BModel", spec := "lawS1607BModel", inPlace := ["internal/bytealg.abigen_runtime_cmpstring"], unfollowed := true, recurses := true, apart := false }
def LawS1607BModelSaid : Prop := lawS1607BModelRow.holds Yba.pinned (OpenSpec.ofChange lawS1607BModelSpec)

/-- ITS FALSE NEIGHBOUR: 'it returns false'. Refute it at one input. -/
def lawS1607BModelWrong : ChangeSpec := { name := "lawS1607BModel", fn := fun _ => fun
  | [d] => { results := [.lit (.bool false)], args := [d] }
  | _ => none }
def LawS1607BModelWrongFalsely : Prop := lawS1607BModelRow.holds Yba.pinned (OpenSpec.ofChange lawS1607BModelWrong)

/-- 'timestamp.LawS1607CEnd': WHATEVER THE INPUT: true; the input reads as it did. -/
def lawS1607CEndSpec : ChangeSpec := { name := "lawS1607CEnd", fn := fun _ => fun
  | [d1, d2] => { results := [.lit (.bool true)], args := [d1, d2] }
  | _ => none }
def lawS1607CEndRow : OpenClaim := { program := "ybulkaggi", sum := "ba62a0bf3c8f1257930b41a5f840a2919fa5eb3e58de5c85c4fc9c553c00ed0b", func := "example.com/interlock/interlock/internal/timestamp.LawS1607CEnd", spec := "lawS1607CEnd", unfollowed := true, recurses := true, apart := false }
def LawS1607CEndSaid : Prop := lawS1607CEndRow.holds Yba.pinned (OpenSpec.ofChange lawS1607CEndSpec)

/-- ITS FALSE NEIGHBOUR: 'it returns false'. Refute it at one input. -/
def lawS1607CEndWrong : ChangeSpec := { name := "lawS1607CEnd", fn := fun _ => fun
  | [d1, d2] => { results := [.lit (.bool false)], args := [d1, d2] }
  | _ => none }
def LawS1607CEndWrongFalsely : Prop := lawS1607CEndRow.holds Yba.pinned (OpenSpec.ofChange lawS1607CEndWrong)

end Rows
end Go.Proofs.Ybulkaggi

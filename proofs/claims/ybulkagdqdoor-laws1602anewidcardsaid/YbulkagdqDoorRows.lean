/-
  NARROWER THAN 'FOR EVERY INPUT', by the rows' own cells (each row's printed sentence says how): LawS1602AResettle: ifaces, laid · LawS1602ANewID: ifaces, laid.
  DERIVED. THE GIVEN ROWS OF THIS SEAT. 2 by the template 'for every input the law returns true; each argument reads behind the call as it read before'; 0 by the template 'total and deterministic' (their statements: YbulkagdqDoorTotals.lean).
  GIVEN WITH THE SEED: the statements are not yours to turn. If you find one false, say at which input.
  Laid BY PROGRAM, IN A SANDBOX (cutbox-rows.mjs): the forced cells as the released guide's own fill.sh prints them over the translation b65a1d4e24ed0f49… (all of the seat's roots in one cut). By AI agents, Wed Nov 11 2026. No macro, syntax, notation, axiom, sorry.
-/
import Derived.Test.YbulkagdqDoorChecked
import GoSem.Claim
import GoSem.ClaimJoined
import GoSem.ClaimMapViews
import Derived.JoinedTies
import Derived.KernelRfl
namespace Go.Proofs.YbulkagdqDoor
/- THE CELL 'sum', in the pinned program and in every row, IS THE sha256 OF THE DUMP (.gsa) THAT YbulkagdqDoorProg.lean LOADS. Nothing in Lean hashes anything: it is a label: what it is worth is what the hold of that sum in a sandbox is worth. -/
noncomputable def Ybad.pinned : Pinned := { name := "ybulkagdqdoor", sum := "b65a1d4e24ed0f4925de417358af72ef43d198581079d792f773a2803bd2c799", checked := Ybad.checked }
namespace Rows
def none {H : Type} : Left H := { results := [], args := [] }

/- WHAT THE LISTED PACKAGE-LEVEL VARIABLES READ AS WHEN THE CALL BEGINS. Each datum BY PROGRAM (the guide's laid-datum.mjs) off the statement by which the dump's own 'gosem.cut.vars' lays the variable. In a bare row this is a premise. The card (YbulkagdqDoorCards.lean) ties it to the program's text. -/
def laid_errors_errorType {H : Type} : DataW H := .iface "internal/reflectlite.rtype" (.agg [.ptr (.lit (.string [101, 114, 114, 111, 114]))])
def laid_example_com_xortrie_xortrie_ErrArbiterID {H : Type} : DataW H := .iface "*errors.errorString" (.ptr (.agg [.lit (.string [97, 114, 98, 105, 116, 101, 114, 39, 115, 32, 99, 111, 110, 116, 97, 99, 116, 32, 105, 100, 32, 105, 115, 32, 110, 111, 116, 32, 116, 104, 101, 32, 105, 110, 99, 117, 109, 98, 101, 110, 116, 39, 115])]))

/-- 'xortrie.LawS1602AResettle': WHATEVER THE INPUT: true; the input reads as it did. -/
def lawS1602AResettleSpec : ChangeSpec := { name := "lawS1602AResettle", vars := ["example.com/xortrie/xortrie.ErrArbiterID"], fn := fun _ => fun
  | [d1, d2, d3, d4, d5, d6, g1] => { results := [.lit (.bool true)], args := [d1, d2, d3, d4, d5, d6], vars := [g1] }
  | _ => none }
def lawS1602AResettleRow : OpenClaim := { program := "ybulkagdqdoor", sum := "b65a1d4e24ed0f4925de417358af72ef43d198581079d792f773a2803bd2c799", func := "example.com/xortrie/xortrie.LawS1602AResettle", spec := "lawS1602AResettle", inPlace := ["sync/atomic.AddUint64", "internal/reflectlite.ValueOf", "(internal/reflectlite.Value).Type", "(internal/reflectlite.Value).IsNil", "internal/reflectlite.TypeOf", "(internal/reflectlite.Value).Elem", "(internal/reflectlite.Value).Set", "sync/atomic.LoadUint64"], unfollowed := true, recurses := true, named := ["example.com/xortrie/xortrie.ErrArbiterID", "errors.errorType"], ifaces := true, apart := false, laid := [("errors.errorType", laid_errors_errorType), ("example.com/xortrie/xortrie.ErrArbiterID", laid_example_com_xortrie_xortrie_ErrArbiterID)] }
def LawS1602AResettleSaid : Prop := lawS1602AResettleRow.holds Ybad.pinned (OpenSpec.ofChange lawS1602AResettleSpec)

/-- ITS FALSE NEIGHBOUR: 'it returns false'. Refute it at one input. -/
def lawS1602AResettleWrong : ChangeSpec := { name := "lawS1602AResettle", vars := ["example.com/xortrie/xortrie.ErrArbiterID"], fn := fun _ => fun
  | [d1, d2, d3, d4, d5, d6, g1] => { results := [.lit (.bool false)], args := [d1, d2, d3, d4, d5, d6], vars := [g1] }
  | _ => none }
def LawS1602AResettleWrongFalsely : Prop := lawS1602AResettleRow.holds Ybad.pinned (OpenSpec.ofChange lawS1602AResettleWrong)

/-- 'xortrie.LawS1602ANewID': WHATEVER THE INPUT: true; the input reads as it did. -/
def lawS1602ANewIDSpec : ChangeSpec := { name := "lawS1602ANewID", vars := ["example.com/xortrie/xortrie.ErrArbiterID"], fn := fun _ => fun
  | [d1, d2, d3, d4, d5, d6, d7, d8, d9, d10, d11, g1] => { results := [.lit (.bool true)], args := [d1, d2, d3, d4, d5, d6, d7, d8, d9, d10, d11], vars := [g1] }
  | _ => none }
def lawS1602ANewIDRow : OpenClaim := { program := "ybulkagdqdoor", sum := "b65a1d4e24ed0f4925de417358af72ef43d198581079d792f773a2803bd2c799", func := "example.com/xortrie/xortrie.LawS1602ANewID", spec := "lawS1602ANewID", inPlace := ["sync/atomic.AddUint64", "sync/atomic.LoadUint64", "internal/reflectlite.ValueOf", "(internal/reflectlite.Value).Type", "(internal/reflectlite.Value).IsNil", "internal/reflectlite.TypeOf", "(internal/reflectlite.Value).Elem", "(internal/reflectlite.Value).Set"], unfollowed := true, recurses := true, named := ["example.com/xortrie/xortrie.ErrArbiterID", "errors.errorType"], ifaces := true, apart := false, laid := [("errors.errorType", laid_errors_errorType), ("example.com/xortrie/xortrie.ErrArbiterID", laid_example_com_xortrie_xortrie_ErrArbiterID)] }
def LawS1602ANewIDSaid : Prop := lawS1602ANewIDRow.holds Ybad.pinned (OpenSpec.ofChange lawS1602ANewIDSpec)

/-- ITS FALSE NEIGHBOUR: 'it returns false'. Refute it at one input. -/
def lawS1602ANewIDWrong : ChangeSpec := { name := "lawS1602ANewID", vars := ["example.com/xortrie/xortrie.ErrArbiterID"], fn := fun _ => fun
  | [d1, d2, d3, d4, d5, d6, d7, d8, d9, d10, d11, g1] => { results := [.lit (.bool false)], args := [d1, d2, d3, d4, d5, d6, d7, d8, d9, d10, d11], vars := [g1] }
  | _ => none }
def LawS1602ANewIDWrongFalsely : Prop := lawS1602ANewIDRow.holds Ybad.pinned (OpenSpec.ofChange lawS1602ANewIDWrong)

end Rows
end Go.Proofs.YbulkagdqDoor

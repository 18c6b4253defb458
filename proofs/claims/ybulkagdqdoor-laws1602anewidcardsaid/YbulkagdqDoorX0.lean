import Derived.Test.YbulkagdqDoorVe
import Derived.Test.YbulkagdqDoorTie
import Derived.Test.YbulkagdqDoorCards
import Derived.WalkKit
import Derived.ProofKit
import Derived.OpenShut
import Derived.ChangeOld
import Derived.ChangeSame
import Derived.ChangeVars
import Derived.JoinedOf
import Derived.OpenVars
import Derived.LaidLaws
import Derived.LaidHandle
import Derived.LaidMore
import Derived.Stop.LaidErr
import Derived.SevenTiedAt
namespace Go.Proofs.YbulkagdqDoor
open Go.ChangeShapes Go.WideShapes Go.ChangeAt Go.RowKit
set_option linter.unusedVariables false

theorem Ybad.own : ownKnob Ybad.prog.godebug = none := by kernel_rfl
theorem Ybad.laidOut : laidOutB Ybad.prog = true := by kernel_rfl
theorem Ybad.gEt : Ybad.prog.globalNamed "errors.errorType" = some 1 := by kernel_rfl
theorem Ybad.gAr : Ybad.prog.globalNamed (Rows.lawS1602AResettleSpec.vars.headD default) = some 0 := by kernel_rfl
theorem Ybad.tAr : (Ybad.prog.globals[0]?).map (·.type) = some 77 := by kernel_rfl
theorem Ybad.oneRow : ((List.range 198).filter fun t => Ybad.prog.rowNamed t [101, 114, 114, 111, 114]) = [77] := by kernel_rfl
theorem Ybad.size : Ybad.prog.types.size = 198 := by kernel_rfl
theorem Ybad.cells172 : Ybad.prog.cellsOf 172 = 1 := by kernel_rfl
theorem Ybad.und172 : (Ybad.prog.underlying 172).isSome = true := by kernel_rfl

/-- The name of the sentinel's type, off the datum. -/
def nmE : String := match (Rows.laid_example_com_xortrie_xortrie_ErrArbiterID : DataW Unit) with
  | .iface n _ => n
  | _ => default

theorem Ybad.rows142 : ((List.range Ybad.prog.types.size).all fun u => Ybad.prog.typeName? 3 u != some nmE || u == 142) = true := by kernel_rfl

theorem Ybad.row142 (u : TypeId) (h : Ybad.prog.typeName? 3 u = some nmE) : u = 142 :=
  typeName_ptr_named (P := Ybad.prog) (nm := "errors.errorString") (by kernel_rfl) (by kernel_rfl) (by decide) u (by rw [h]; kernel_rfl)

abbrev laidL : List (String × DataW Unit) := Rows.lawS1602AResettleRow.laid

/-- What the condition gives the walk: the two variables' cells. -/
theorem cells_of_laid {W : World} (h : laidMetH Ybad.prog laidL W) :
    W.cell? ⟨1, 0, none⟩ = some (.iface 129 (.agg #[.pointer (some ⟨2, 77, none⟩)])) ∧ ∃ ea, W.cell? ⟨0, 0, none⟩ = some (.iface 142 (.pointer (some ea))) := by
  have h' : laidMet Ybad.prog (laidL.filter fun x => x.2.handleName?.isNone) W ∧ handlesMet Ybad.prog (laidL.filter fun x => x.2.handleName?.isSome) W := h
  refine ⟨?_, ?_⟩
  · obtain ⟨name, u, ty, e1, e2, e3, e4, e5⟩ := h'.2 (laidL.headD (default, .lit (.bool true))) (List.mem_filter.2 ⟨List.mem_cons_self .., rfl⟩)
    have en : name = [101, 114, 114, 111, 114] := (Option.some.inj e1).symm
    subst en
    obtain rfl : 129 = u := by
      have : some 129 = some u := by rw [← e2]; kernel_rfl
      exact Option.some.inj this
    have hm : ty ∈ (List.range 198).filter fun t => Ybad.prog.rowNamed t [101, 114, 114, 111, 114] := List.mem_filter.2 ⟨List.mem_range.2 (by rw [← Ybad.size]; exact e3), e4⟩
    rw [Ybad.oneRow] at hm
    obtain rfl := List.mem_singleton.1 hm
    have hh : typeHandle Ybad.prog 77 = .pointer (some ⟨2, 77, none⟩) := by kernel_rfl
    rw [hh] at e5
    simpa using World.var?_cell Ybad.gEt e5 0
  · have hL : laidMet Ybad.prog [((Rows.lawS1602AResettleSpec.vars.headD default), .iface nmE (.ptr (.agg [.lit (.string [97, 114, 98, 105, 116, 101, 114, 39, 115, 32, 99, 111, 110, 116, 97, 99, 116, 32, 105, 100, 32, 105, 115, 32, 110, 111, 116, 32, 116, 104, 101, 32, 105, 110, 99, 117, 109, 98, 101, 110, 116, 39, 115])])))] W := h'.1
    obtain ⟨a, s, hv, hc, hs, hz⟩ := laid_sentinel hL Ybad.gAr Ybad.tAr Ybad.underlying77 Ybad.row142 Ybad.underlying142 Ybad.underlying172 rfl rfl (by kernel_rfl) Ybad.cells172 (by kernel_rfl)
    exact ⟨a, by simpa using World.var?_cell Ybad.gAr hv 0⟩

end Go.Proofs.YbulkagdqDoor

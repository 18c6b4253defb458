import Derived.Test.YbulkaggiCo
import Derived.Test.YbulkaggiCr
namespace Go.Proofs.Ybulkaggi.CE
open Go.RowKit Go.WideMaps Go.Maps
set_option linter.unusedVariables false
set_option maxRecDepth 100000

theorem wrap_small (a : Nat) (h : a < 256) : wrap64 (a : Int) = (a : Int) := by
  unfold wrap64
  omega
theorem tmod_small (a L : Nat) (h : a < 256) : (wrap64 (a : Int)).tmod (L : Int) = ((a % L : Nat) : Int) := by
  rw [wrap_small a h, Int.tmod_eq_emod_of_nonneg (by omega)]
  rfl

end Go.Proofs.Ybulkaggi.CE

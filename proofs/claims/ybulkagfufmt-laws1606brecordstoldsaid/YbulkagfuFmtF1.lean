import Derived.Test.YbulkagfuFmtProg
import Derived.Conc.MuLone
import Derived.Conc.RwLib
import Derived.Conc.MuData
import Derived.KernelRfl
import Derived.WalkKit
import Derived.WalkSpells
import Derived.WalkLawsBesides
namespace Go.Proofs.YbulkagfuFmt
open Go.RowKit
set_option linter.unusedVariables false
set_option maxRecDepth 100000

abbrev Ybaf.muLink : Go.Conc.Locks.MuLink := { lock := 6, unlock := 7, ilock := 9, iunlock := 10, lockSlow := 16, unlockSlow := 19, disable := 12, enable := 14, acquire := 15, relMerge := 17, cas32 := 13, add32 := 18, tMutex := 32, tIMutex := 30, tPMutex := 56, tPIMutex := 59, tPI32 := 61, tUP := 63, tNoCopy := 27, tU32 := 28 }
theorem Ybaf.muLib : Go.Conc.Locks.MuLib Ybaf.prog Ybaf.muLink :=
  ⟨Ybaf.func6, Ybaf.func7, Ybaf.func9, Ybaf.func10, Ybaf.func12, Ybaf.func14, Ybaf.func15, Ybaf.func17, Ybaf.func13, Ybaf.func18, Ybaf.underlying30, Ybaf.runUnderlying30, Ybaf.sizeOf30, Ybaf.isAgg30, Ybaf.zeroValue30, Ybaf.underlying32, Ybaf.runUnderlying32, Ybaf.sizeOf32, Ybaf.isAgg32, Ybaf.zeroValue32, Ybaf.underlying56, Ybaf.runUnderlying56, Ybaf.sizeOf56, Ybaf.isAgg56, Ybaf.zeroValue56, Ybaf.underlying59, Ybaf.runUnderlying59, Ybaf.sizeOf59, Ybaf.isAgg59, Ybaf.zeroValue59, Ybaf.underlying61, Ybaf.runUnderlying61, Ybaf.sizeOf61, Ybaf.isAgg61, Ybaf.zeroValue61, Ybaf.underlying63, Ybaf.runUnderlying63, Ybaf.sizeOf63, Ybaf.isAgg63, Ybaf.zeroValue63, Ybaf.underlying27, Ybaf.runUnderlying27, Ybaf.sizeOf27, Ybaf.isAgg27, Ybaf.zeroValue27, Ybaf.underlying21, Ybaf.runUnderlying21, Ybaf.sizeOf21, Ybaf.isAgg21, Ybaf.zeroValue21, (by kernel_rfl)⟩

def valI (i j t : Int) : Int := i * 1000 + j * 100 + t

theorem val_any (i j t : Nat) (hi : i ≤ 4) (hj : j ≤ 4) (ht : t ≤ 4) (w : World) : Calls Ybaf.prog 4 #[.int .i64 i, .int .i64 j, .int .i64 t] w fun e w' => e = .returned (.int .i64 (valI i j t)) ∧ w' = w := by
  go_enter Ybaf.func4, Ybaf.ntmps4
  go_wp2
  go_ret
  exact ⟨rfl, rfl⟩

end Go.Proofs.YbulkagfuFmt

import Derived.Test.YbulkagfuFmtF2
import Derived.DeepKeys4
namespace Go.Proofs.YbulkagfuFmt
open Go.RowKit Go.WideMaps Go.Maps Go.Extern.Stop Go.Stop Go.Extern
set_option linter.unusedVariables false
set_option maxRecDepth 100000

theorem laidOut : laidOutB Ybaf.prog = true := by kernel_rfl
theorem lawK : Keyed Ybaf.prog 49 := Keyed.of_law (deep_law_laid laidOut (m := 2) (by omega) (of_decide_eq_true (by kernel_rfl)) (by kernel_rfl) (by rw [Ybaf.underlying49]))
abbrev qS : ByteArray := ⟨#[113]⟩
def klit (i : Nat) : Lit := .string (keyBytes [.string [113], .int .u64 (i : Int)])
theorem key49 (i : Nat) (hi : i ≤ 4) : keyOf Ybaf.prog 49 (.agg #[.string qS, .int .u64 (i : Int)]) = some (klit i) := by
  rcases (by omega : i = 0 ∨ i = 1 ∨ i = 2 ∨ i = 3 ∨ i = 4) with rfl | rfl | rfl | rfl | rfl <;> kernel_rfl
theorem klit_same (i j : Nat) (hi : i ≤ 4) (hj : j ≤ 4) : (klit i).sameKey (klit j) = (i == j) := by
  rcases (by omega : i = 0 ∨ i = 1 ∨ i = 2 ∨ i = 3 ∨ i = 4) with rfl | rfl | rfl | rfl | rfl <;> rcases (by omega : j = 0 ∨ j = 1 ∨ j = 2 ∨ j = 3 ∨ j = 4) with rfl | rfl | rfl | rfl | rfl <;> kernel_rfl
theorem klit_inj (i j : Nat) (hi : i ≤ 4) (hj : j ≤ 4) (h : klit i = klit j) : i = j := by
  have a := klit_same i j hi hj
  have b := klit_same i i hi hi
  rw [← h, b] at a
  simpa using a.symm

/-- A pointer among a map's elements reads as the number of its block. -/
def ptrElem {H : Type} : Value → Option (DataW H × List MemPlace)
  | .pointer (some ⟨b, 0, none⟩) => some (.lit (.int .i64 b), [])
  | _ => none
theorem ptrElem_mk {H : Type} (b : Nat) : ptrElem (H := H) (.pointer (some ⟨b, 0, none⟩)) = some (.lit (.int .i64 b), []) := rfl
theorem ptrElem_inv {H : Type} {v : Value} {y : DataW H × List MemPlace} (h : ptrElem v = some y) : ∃ b, v = .pointer (some ⟨b, 0, none⟩) ∧ y = (.lit (.int .i64 b), []) := by
  unfold ptrElem at h
  split at h
  · rename_i b
    exact ⟨b, rfl, (Option.some.inj h).symm⟩
  · cases h

end Go.Proofs.YbulkagfuFmt

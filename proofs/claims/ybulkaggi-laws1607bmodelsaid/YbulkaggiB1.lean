import Derived.Test.YbulkaggiE1
import Derived.BigQuiet
namespace Go.Proofs.Ybulkaggi.BM
open Go.RowKit Go.Proofs.Ybulkaggi
set_option linter.unusedVariables false
set_option maxRecDepth 100000

/-! ### The operations, plainly: action, transaction, item -/
abbrev O3 : Type := Nat × Nat × Nat
def actB : Nat → ByteArray
  | 0 => ⟨#[114]⟩
  | 1 => ⟨#[114, 117]⟩
  | 2 => ⟨#[119]⟩
  | 3 => ⟨#[99]⟩
  | 4 => ⟨#[97]⟩
  | _ => ⟨#[114, 108]⟩
def itS (j : Nat) : ByteArray := ⟨#[120 + j.toUInt8]⟩
def itB (o : O3) : ByteArray := if o.1 = 3 ∨ o.1 = 4 then ⟨#[]⟩ else itS o.2.2
structure OkO (o : O3) : Prop where
  k : o.1 < 6
  t1 : 1 ≤ o.2.1
  t4 : o.2.1 ≤ 4
  i : o.2.2 < 3
structure OpsAt (w : World) (g : Nat) (L : List O3) : Prop where
  ok : ∀ i (h : i < L.length), OkO L[i]
  a : ∀ i (h : i < L.length), w.cell? ⟨g, i * 3, none⟩ = some (.string (actB L[i].1))
  t : ∀ i (h : i < L.length), w.cell? ⟨g, i * 3 + 1, none⟩ = some (.int .i64 (L[i].2.1 : Nat))
  i : ∀ i (h : i < L.length), w.cell? ⟨g, i * 3 + 2, none⟩ = some (.string (itB L[i]))
theorem OpsAt.keep {w w' : World} {g : Nat} {L : List O3} (h : OpsAt w g L) (e : w'.heap[g]? = w.heap[g]?) : OpsAt w' g L :=
  ⟨h.ok, fun i hi => (World.cell?_of_block e).trans (h.a i hi), fun i hi => (World.cell?_of_block e).trans (h.t i hi), fun i hi => (World.cell?_of_block e).trans (h.i i hi)⟩
def isR (o : O3) : Bool := decide (o.1 ≤ 1)
def isW (o : O3) : Bool := decide (o.1 = 2)
def rdB (o : O3) (t j : Nat) : Bool := decide (o.2.1 = t ∧ o.2.2 = j ∧ o.1 ≤ 1)
def wrB (o : O3) (t j : Nat) : Bool := decide (o.2.1 = t ∧ o.2.2 = j ∧ o.1 = 2)

/-! ### Strings that are tested -/
theorem itS_eq {i j : Nat} (hi : i < 3) (hj : j < 3) : (itS i == itS j) = decide (i = j) := by
  rcases (by omega : i = 0 ∨ i = 1 ∨ i = 2) with rfl | rfl | rfl <;> rcases (by omega : j = 0 ∨ j = 1 ∨ j = 2) with rfl | rfl | rfl <;> decide
theorem itB_eq {o : O3} (h : OkO o) {j : Nat} (hj : j < 3) : (itB o == itS j) = decide (o.1 ≠ 3 ∧ o.1 ≠ 4 ∧ o.2.2 = j) := by
  unfold itB
  by_cases e : o.1 = 3 ∨ o.1 = 4
  · rw [if_pos e]
    have : (⟨#[]⟩ == itS j) = false := by rcases (by omega : j = 0 ∨ j = 1 ∨ j = 2) with rfl | rfl | rfl <;> decide
    rw [this]
    symm
    simp
    omega
  · rw [if_neg e, itS_eq h.i hj]
    have e1 : o.1 ≠ 3 := fun x => e (.inl x)
    have e2 : o.1 ≠ 4 := fun x => e (.inr x)
    simp [e1, e2]
theorem actB_eq {i j : Nat} (hi : i < 6) (hj : j < 6) : (actB i == actB j) = decide (i = j) := by
  rcases (by omega : i = 0 ∨ i = 1 ∨ i = 2 ∨ i = 3 ∨ i = 4 ∨ i = 5) with rfl | rfl | rfl | rfl | rfl | rfl <;> rcases (by omega : j = 0 ∨ j = 1 ∨ j = 2 ∨ j = 3 ∨ j = 4 ∨ j = 5) with rfl | rfl | rfl | rfl | rfl | rfl <;> decide

theorem itS_L {i j : Nat} (hi : i < 3) (hj : j < 3) : (itS i).toList = (itS j).toList ↔ i = j := by
  rw [ByteArray.toList_eq, ByteArray.toList_eq]
  rcases (by omega : i = 0 ∨ i = 1 ∨ i = 2) with rfl | rfl | rfl <;> rcases (by omega : j = 0 ∨ j = 1 ∨ j = 2) with rfl | rfl | rfl <;> decide
theorem itB_L {o : O3} (h : OkO o) {j : Nat} (hj : j < 3) : (itB o).toList = (itS j).toList ↔ (o.1 ≠ 3 ∧ o.1 ≠ 4 ∧ o.2.2 = j) := by
  unfold itB
  by_cases e : o.1 = 3 ∨ o.1 = 4
  · rw [if_pos e]
    have : ¬ (⟨#[]⟩ : ByteArray).toList = (itS j).toList := by rw [ByteArray.toList_eq, ByteArray.toList_eq]; rcases (by omega : j = 0 ∨ j = 1 ∨ j = 2) with rfl | rfl | rfl <;> decide
    constructor
    · intro h; exact absurd h this
    · intro h; omega
  · rw [if_neg e, itS_L h.i hj]
    constructor
    · intro h; omega
    · intro h; exact h.2.2
theorem actB_L {i j : Nat} (hi : i < 6) (hj : j < 6) : (actB i).toList = (actB j).toList ↔ i = j := by
  rw [ByteArray.toList_eq, ByteArray.toList_eq]
  rcases (by omega : i = 0 ∨ i = 1 ∨ i = 2 ∨ i = 3 ∨ i = 4 ∨ i = 5) with rfl | rfl | rfl | rfl | rfl | rfl <;> rcases (by omega : j = 0 ∨ j = 1 ∨ j = 2 ∨ j = 3 ∨ j = 4 ∨ j = 5) with rfl | rfl | rfl | rfl | rfl | rfl <;> decide

/-! ### IsRead, isAccess -/
theorem isRead_any (k : Nat) (hk : k < 6) (w : World) : Calls Yba.prog 64 #[.string (actB k)] w fun e w' => e = .returned (.bool (decide (k ≤ 1))) ∧ w' = w := by
  rcases (by omega : k = 0 ∨ k = 1 ∨ k = 2 ∨ k = 3 ∨ k = 4 ∨ k = 5) with rfl | rfl | rfl | rfl | rfl | rfl
  all_goals (
    simp only [actB]
    go_enter Yba.func64, Yba.ntmps64
    go_wp2
    go_ret
    exact ⟨rfl, rfl⟩)

end Go.Proofs.Ybulkaggi.BM

import Derived.Test.YbulkaggiBi
namespace Go.Proofs.Ybulkaggi.BM
open Go.RowKit Go.Proofs.Ybulkaggi Go.Sort Go.Shelf Go.Lib
open Go.Proofs.Ybulkaggi.CE (hlt tag_ne own_tag own_keep size_set grown_alloc grown_drewN grown_cell grown_none grown_setCells lset own_setCells lset_take own_prefix)
set_option linter.unusedVariables false
set_option maxRecDepth 100000

/-! ### Rows of runs -/
theorem flat2 : ∀ (M : List RunV) (k : Nat) (h : k < M.length), (M.flatMap encR)[k * 2]? = some (Pp M[k].tb) ∧ (M.flatMap encR)[k * 2 + 1]? = some (.slice (some ⟨M[k].g, M[k].o, none⟩) M[k].A.length M[k].c)
  | [], k, h => by simp at h
  | x :: M, 0, h => ⟨rfl, rfl⟩
  | x :: M, k + 1, h => by
    have ih := flat2 M k (by simpa using h)
    have e : (x :: M).flatMap encR = Pp x.tb :: .slice (some ⟨x.g, x.o, none⟩) x.A.length x.c :: M.flatMap encR := rfl
    rw [e, show (k + 1) * 2 = k * 2 + 1 + 1 by omega]
    simpa using ih
theorem flat_len (M : List RunV) : (M.flatMap encR).length = M.length * 2 := by
  induction M with
  | nil => rfl
  | cons x M ih =>
    have e : (x :: M).flatMap encR = Pp x.tb :: .slice (some ⟨x.g, x.o, none⟩) x.A.length x.c :: M.flatMap encR := rfl
    rw [e]
    simp [ih]
    omega
theorem flat_set : ∀ (M : List RunV) (k : Nat) (x : RunV), k < M.length → lset (M.flatMap encR) (k * 2) (encR x) = (M.set k x).flatMap encR
  | [], k, x, h => by simp at h
  | y :: M, 0, x, h => rfl
  | y :: M, k + 1, x, h => by
    have ih := flat_set M k x (by simpa using h)
    have e : ∀ (y : RunV) (M : List RunV), (y :: M).flatMap encR = Pp y.tb :: .slice (some ⟨y.g, y.o, none⟩) y.A.length y.c :: M.flatMap encR := fun _ _ => rfl
    rw [List.set_cons_succ, e, e, ← ih, show (k + 1) * 2 = k * 2 + 1 + 1 by omega]
    rfl
theorem flat_take : ∀ (M : List RunV) (k : Nat), (M.flatMap encR).take (k * 2) = (M.take k).flatMap encR
  | [], k => by simp
  | y :: M, 0 => by simp
  | y :: M, k + 1 => by
    have ih := flat_take M k
    have e : ∀ (y : RunV) (M : List RunV), (y :: M).flatMap encR = Pp y.tb :: .slice (some ⟨y.g, y.o, none⟩) y.A.length y.c :: M.flatMap encR := fun _ _ => rfl
    rw [List.take_succ_cons, e, e, ← ih, show (k + 1) * 2 = k * 2 + 1 + 1 by omega]
    rfl
def RR (N : Nat) (w : World) (g c : Nat) (M : List RunV) : Prop := w.ownsRow N 94 2 (.slice (some ⟨g, 0, none⟩) M.length c) M.length (M.flatMap encR)
theorem RR.at_ {N : Nat} {w : World} {g c : Nat} {M : List RunV} (h : RR N w g c M) {k : Nat} (hk : k < M.length) : w.cell? ⟨g, k * 2, none⟩ = some (Pp M[k].tb) ∧ w.cell? ⟨g, k * 2 + 1, none⟩ = some (.slice (some ⟨M[k].g, M[k].o, none⟩) M[k].A.length M[k].c) := by
  obtain ⟨e1, e2⟩ := flat2 M k hk
  exact ⟨by rw [h.cellAt _ (by omega)]; exact e1, by rw [h.cellAt _ (by omega)]; exact e2⟩
theorem RR.lt {N : Nat} {w : World} {g c : Nat} {M : List RunV} (h : RR N w g c M) : g < w.heap.size ∧ N ≤ g ∧ M.length ≤ c ∧ c ≤ 9223372036854775807 := by
  rcases h.2 with ⟨h1, _⟩ | ⟨g', cap', cur, h1, h2, h3, h4, h5, _⟩
  · cases h1
  · cases h1
    exact ⟨hlt h3, h2, h4, h5⟩
theorem RR.keep {N : Nat} {w w' : World} {g c : Nat} {M : List RunV} (h : RR N w g c M) (hb : w'.heap[g]? = w.heap[g]?) : RR N w' g c M := own_keep h (fun k hk => by cases hk; exact hb)
theorem RR.grown {N : Nat} {w w' : World} {g c : Nat} {M : List RunV} (h : RR N w g c M) (hg : w.grownBy w' none) : RR N w' g c M := h.keep (hg.block g h.lt.1 (by simp))
theorem RR.set {N : Nat} {w : World} {g c : Nat} {M : List RunV} (h : RR N w g c M) {k : Nat} (hk : k < M.length) (x : RunV) : RR N (w.setCells g (k * 2) (encR x)) g c (M.set k x) := by
  have h1 := own_setCells (encR x) (k * 2) h
  rw [flat_set M k x hk] at h1
  unfold RR
  rw [List.length_set]
  exact h1
theorem RR.front {N : Nat} {w : World} {g c : Nat} {M : List RunV} (h : RR N w g c M) {i : Nat} (hi : i ≤ M.length) (vs : List Value) : RR N (w.setCells g (i * 2) vs) g c (M.take i) := by
  have h1 := own_prefix (own_setCells vs (i * 2) h) hi
  rw [lset_take vs _ _ _ (Nat.le_refl _), flat_take] at h1
  have e : (M.take i).length = i := by simp [hi]
  unfold RR
  rw [e]
  exact h1

/-! ### overlapping's closure -/
def CPost (w : World) (b : Bool) (e : Ending) (w' : World) : Prop := e = .returned (.bool b) ∧ w.grownBy w' none
theorem clo61 (B : Nat) (s : Value) (bx Br : Nat) (lo fr : Int) (w : World) (lt : bx < w.heap.size) (lt2 : Br < w.heap.size) (lt3 : B < w.heap.size) (c1 : w.cell? ⟨bx, 0, none⟩ = some (Pp Br)) (c2 : w.cell? ⟨Br, 1, none⟩ = some (.int .i64 fr)) (c3 : w.cell? ⟨B, 2, none⟩ = some (.int .i64 lo)) :
    Calls Yba.prog 61 #[.agg #[Pp B, s], Pp bx] w (CPost w (decide (lo < fr))) := by
  have HP : Hid (∀ n, CPost w (decide (lo < fr)) (.returned (.bool (decide (lo < fr)))) ((w.alloc (.cells #[Pp B, s] 94)).drewN n)) := fun n => ⟨rfl, grown_drewN (grown_alloc _ _) n⟩
  go_enter Yba.func61, Yba.ntmps61
  go_upto_region 1 with fail
  go_quiet (fail)
  go_wp2
  go_ret
  exact HP.out _
end Go.Proofs.Ybulkaggi.BM

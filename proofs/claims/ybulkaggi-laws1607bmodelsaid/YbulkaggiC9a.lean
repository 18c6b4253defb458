import Derived.Test.YbulkaggiC8a
import Derived.Test.YbulkaggiC8b
import Derived.Test.YbulkaggiC8c
namespace Go.Proofs.Ybulkaggi.CE
open Go.RowKit Go.WideMaps Go.Maps
set_option linter.unusedVariables false
set_option maxRecDepth 100000

def SStep (S S' : St) (x i : Nat) (b : Bool) (st : Nat) : Prop :=
  (st = 4 ∧ S' = S) ∨ (st = 2 ∧ ∃ (v : Value) (p : Int × Int), S' = { S with G := v, gl := S.gl ++ [p] }) ∨ (st = 1 ∧ ∃ n : Int, S' = { S with rd := upd S.rd i n }) ∨ (st = 1 ∧ (S.wr i = none ∨ S.wr i = some x) ∧ WStep S S' x i) ∨
  (st = 3 ∧ ∃ (y r : Nat) (v : Value), S.wr i = some y ∧ y ≠ x ∧ S' = { S with wt := upd S.wt x (some (r, i, b)), Q := upd S.Q y v, ql := upd S.ql y (S.ql y ++ [x]) })
theorem SStep.aborted {S S' : St} {x i : Nat} {b : Bool} (e : S' = S) : SStep S S' x i b 4 := Or.inl ⟨rfl, e⟩
theorem SStep.ignored {S S' : St} {x i : Nat} {b : Bool} (v : Value) (p : Int × Int) (e : S' = { S with G := v, gl := S.gl ++ [p] }) : SStep S S' x i b 2 := Or.inr (Or.inl ⟨rfl, v, p, e⟩)
theorem SStep.read {S S' : St} {x i : Nat} {b : Bool} (n : Int) (e : S' = { S with rd := upd S.rd i n }) : SStep S S' x i b 1 := Or.inr (Or.inr (Or.inl ⟨rfl, n, e⟩))
theorem SStep.write {S S' : St} {x i : Nat} {b : Bool} (hw : S.wr i = none ∨ S.wr i = some x) (e : WStep S S' x i) : SStep S S' x i b 1 := Or.inr (Or.inr (Or.inr (Or.inl ⟨rfl, hw, e⟩)))
theorem SStep.waiting {S S' : St} {x i : Nat} {b : Bool} (y r : Nat) (v : Value) (hy : S.wr i = some y) (hne : y ≠ x) (e : S' = { S with wt := upd S.wt x (some (r, i, b)), Q := upd S.Q y v, ql := upd S.ql y (S.ql y ++ [x]) }) : SStep S S' x i b 3 := Or.inr (Or.inr (Or.inr (Or.inr ⟨rfl, y, r, v, hy, hne, e⟩)))
def ServPost (N : Nat) (D : List Nat) (T : Nat) (w : World) (S : St) (x i : Nat) (b : Bool) (e : Ending) (w' : World) : Prop :=
  ∃ st : Nat, e = .returned (.int .u8 (st : Int)) ∧ ∃ S', Rel N D T w' S' ∧ Fr N D w w' ∧ SStep S S' x i b st

structure SV (N : Nat) (D : List Nat) (T : Nat) (w X : World) (S : St) (i : Nat) (b : Bool) : Prop where
  rel : Rel N D T X S
  fr : Fr N D w X
  box : X.heap[w.heap.size]? = some (.cells #[Pp i, .bool b] 118 (0, 0))
  le : w.heap.size < X.heap.size
theorem SV.drewN {N : Nat} {D : List Nat} {T : Nat} {w X : World} {S : St} {i : Nat} {b : Bool} (h : SV N D T w X S i b) (n : Nat) : SV N D T w (X.drewN n) S i b := ⟨h.rel.heapEq rfl, h.fr.heapEq rfl rfl rfl rfl, h.box, h.le⟩
theorem SV.start {N : Nat} {D : List Nat} {T : Nat} {w : World} {S : St} (h : Rel N D T w S) (i : Nat) (b : Bool) : SV N D T w (w.alloc (.cells #[Pp i, .bool b] 118)) S i b := ⟨h.alloc _, Fr.alloc h.low _, heap_alloc_new w _, by simp⟩
theorem SV.cells {N : Nat} {D : List Nat} {T : Nat} {w X : World} {S : St} {i : Nat} {b : Bool} (h : SV N D T w X S i b) {x : Nat} (hx : x ∈ S.hs) (hi : i ∈ S.its) :
    X.cell? ⟨S.tb x, 1, none⟩ = some (.int .u64 ((x : Int) + 1)) ∧ X.cell? ⟨i, 0, none⟩ = some (.int .u64 (S.rd i)) ∧ X.cell? ⟨i, 1, none⟩ = some (.int .u64 (S.wn i)) ∧ X.cell? ⟨i, 2, none⟩ = some (po ((S.wr i).map S.tb)) ∧ X.cell? ⟨T, 0, none⟩ = some (.bool S.th) ∧ X.cell? ⟨w.heap.size, 0, none⟩ = some (Pp i) ∧ X.cell? ⟨w.heap.size, 1, none⟩ = some (.bool b) :=
  ⟨(cell_at (h.rel.x.at_ x hx) 1).trans rfl, (cell_at (h.rel.i.at_ i hi) 0).trans rfl, (cell_at (h.rel.i.at_ i hi) 1).trans rfl, (cell_at (h.rel.i.at_ i hi) 2).trans rfl, (cell_at h.rel.t.at_ 0).trans rfl, (cell_at h.box 0).trans rfl, (cell_at h.box 1).trans rfl⟩

set_option maxHeartbeats 1000000 in
theorem servA {N : Nat} {D : List Nat} {T : Nat} {w : World} {S : St} (h : Rel N D T w S) {x i : Nat} (hx : x ∈ S.hs) (hi : i ∈ S.its) (hd : decide ((x : Int) + 1 < S.rd i) = true) :
    Calls Yba.prog 41 #[Pp T, Pp (S.tb x), .agg #[Pp i, .bool true]] w (ServPost N D T w S x i true) := by
  have V0 := SV.start h i true
  have HX := hide hx
  have HI := hide hi
  have HH := hide h
  obtain ⟨q1, q2, q3, q4, q5, q6, q7⟩ := V0.cells hx hi
  clear h hx hi
  go_enter Yba.func41, Yba.ntmps41
  go_upto_region 2 with fail
  generalize w.alloc (.cells #[Pp i, .bool true] 118) = X0 at *
  go_upto_region 2 with fail
  go_quiet (fail)
  have V1 := V0.drewN nq
  clear q1 q2 q3 q4 q5 q6 q7
  generalize X0.drewN nq = X1 at V1 ⊢
  obtain ⟨q1, q2, q3, q4, q5, q6, q7⟩ := V1.cells HX.out HI.out
  go_wp2
  go_ret
  exact ⟨4, rfl, S, V1.rel, V1.fr, .aborted rfl⟩

end Go.Proofs.Ybulkaggi.CE

import Derived.Test.YbulkaggiC4
import Derived.Carry
namespace Go.Proofs.Ybulkaggi.CE
open Go.RowKit Go.WideMaps Go.Maps
set_option linter.unusedVariables false
set_option maxRecDepth 100000

theorem wpList_put {P : Program} (w : World) {ops : Array Oper} {rest : List Oper} {o : Oper} {a : Act} {Q : Exit → Act → World → Prop}
    (hg : o.guard = none) (m x v : Operand) (t : TypeId) (hop : o.op = Op.mapUpdate t m x v) {C : World → Prop} (hr : ∃ w', (Instr.mapUpdate t (a.eval m) (a.eval x) (a.eval v)).run P w = .ok () w' ∧ C w')
    (hK : ∀ w', C w' → wpList P ops Q rest (a.put o.dst undef) w') : wpList P ops Q (o :: rest) a w := by
  refine wpList_plain hg fun K' hK' => ?_
  obtain ⟨w', hrun, r1⟩ := hr
  unfold Oper.wp
  simp [execOp, hop, hrun, Result.andThen]
  exact hK' _ _ (hK w' r1)

/-- An item at most has come; nothing that was there has turned. -/
structure Grew (S S' : St) : Prop where
  same : S' = { S with im := S'.im, its := S'.its, rd := S'.rd, wn := S'.wn, wr := S'.wr }
  sub : ∀ i ∈ S.its, i ∈ S'.its ∧ S'.rd i = S.rd i ∧ S'.wn i = S.wn i ∧ S'.wr i = S.wr i
  new : ∀ i ∈ S'.its, i ∉ S.its → S'.wr i = none
theorem Grew.refl (S : St) : Grew S S := ⟨rfl, fun i hi => ⟨hi, rfl, rfl, rfl⟩, fun i h1 h2 => absurd h1 h2⟩

theorem look48_nil (w : World) (j : Nat) : (Instr.lookup 48 (.map none) (.string (nm j)) false).run Yba.prog w = .ok (.pointer none) w := by
  have := Maps.look_nil (w := w) false key9 Yba.underlying48 (zero115 w) (keyS j)
  simpa using this

theorem eqm48_nil (w : World) : (binOp .eql 48 (.map none) (.map none)).run Yba.prog w = .ok (.bool true) w := by kernel_rfl
theorem eqm48 (b : Nat) (w : World) : (binOp .eql 48 (.map (some b)) (.map none)).run Yba.prog w = .ok (.bool false) w := by kernel_rfl
theorem eqm49_nil (w : World) : (binOp .eql 49 (.map none) (.map none)).run Yba.prog w = .ok (.bool true) w := by kernel_rfl
theorem eqm49 (b : Nat) (w : World) : (binOp .eql 49 (.map (some b)) (.map none)).run Yba.prog w = .ok (.bool false) w := by kernel_rfl
theorem eqm63_nil (w : World) : (binOp .eql 63 (.map none) (.map none)).run Yba.prog w = .ok (.bool true) w := by kernel_rfl
theorem eqm63 (b : Nat) (w : World) : (binOp .eql 63 (.map (some b)) (.map none)).run Yba.prog w = .ok (.bool false) w := by kernel_rfl
def ItemPost (N : Nat) (D : List Nat) (T : Nat) (w : World) (S : St) (e : Ending) (w' : World) : Prop :=
  ∃ i, e = .returned (Pp i) ∧ ∃ S', Rel N D T w' S' ∧ Fr N D w w' ∧ Grew S S' ∧ i ∈ S'.its

theorem Rel.freshMap {N : Nat} {D : List Nat} {T : Nat} {w : World} {S : St} (h : Rel N D T w S) : ¬ Pd N D w.heap.size ∧ S.tm ≠ some w.heap.size ∧ S.im ≠ some w.heap.size := ⟨not_new h.low (Nat.le_refl _), (h.notNew (Nat.le_refl _)).2.2.2.2.2.2.2.2, (h.notNew (Nat.le_refl _)).2.2.2.2.2.2.2.1⟩

abbrev itemO : Obj := .cells #[.int .u64 0, .int .u64 0, .pointer none] 126 (0, 0)
theorem item_new {N : Nat} {D : List Nat} {T : Nat} {w : World} {S : St} (h : Rel N D T w S) {b j : Nat} (hj : j < 3) (hb : S.im = some b) :
    ∃ w', (Instr.mapUpdate 48 (.map (some b)) (.string (nm j)) (Pp w.heap.size)).run Yba.prog (w.alloc itemO) = .ok () w' ∧ ∃ S', Rel N D T w' S' ∧ Fr N D w w' ∧ Grew S S' ∧ w.heap.size ∈ S'.its := by
  have h1 := h.newI
  obtain ⟨w', r, hI, hg⟩ := (h1.m.fim b hb).put hj (i := w.heap.size) (by simp)
  obtain ⟨h2, f2⟩ := h1.mapI hb hg hI
  refine ⟨w', r, _, h2, (Fr.alloc h.low _).trans f2, ⟨rfl, fun i hi => ?_, fun i hi hn => ?_⟩, by simp⟩
  · have e : i ≠ w.heap.size := fun e => (h.notNew (Nat.le_refl _)).2.2.2.1 i hi e.symm
    exact ⟨by simp [hi], upd_other _ _ e, upd_other _ _ e, upd_other _ _ e⟩
  · rcases List.mem_cons.1 hi with rfl | hi
    · exact upd_same _ _ _
    · exact absurd hi hn

theorem item_any {N : Nat} {D : List Nat} {T : Nat} {w : World} {S : St} (h : Rel N D T w S) {j : Nat} (hj : j < 3) :
    Calls Yba.prog 42 #[Pp T, .string (nm j)] w (ItemPost N D T w S) := by
  have hT := h.t.at_
  have hz := free_at hT 1
  have lt := hlt hT
  cases hi : S.im with
  | none =>
    have c1 : w.cell? ⟨T, 1, none⟩ = some (.map none) := by rw [cell_at hT, hi]; rfl
    have r0 := look48_nil w j
    have hmm := @run_makeMap Yba.prog
    have e1 := eqm48_nil
    obtain ⟨n1, n2, _⟩ := h.freshMap
    obtain ⟨h2, f2⟩ := (h.alloc (.map #[] 0)).setIm (some w.heap.size) (fun b e => by cases e; exact ⟨IM.made w _, n1, n2⟩)
    obtain ⟨w', r, S', g1, g2, g3, g4⟩ := item_new h2 (b := w.heap.size) hj rfl
    have e0 : ((w.alloc (.map #[] 0)).setCell ⟨T, 1, none⟩ (.map (some w.heap.size))).heap.size = w.heap.size + 1 := by rw [size_set]; simp
    rw [e0] at r g4
    rw [World.setCell_alloc_past _ _ _ _ lt] at r
    have HP : Hid (∀ v, v = w.heap.size + 1 → ItemPost N D T w S (.returned (Pp v)) w') := fun v e => by
      subst e
      refine ⟨_, rfl, S', g1, ((Fr.alloc h.low _).trans f2).trans g2, ⟨?_, g3.sub, g3.new⟩, g4⟩
      rw [g3.same]
    clear g1 g2 g3 g4 h2 f2 h hT hi n1 n2
    go_enter Yba.func42, Yba.ntmps42
    go_wp2
    go_ret
    exact HP _ rfl
  | some b =>
    have c1 : w.cell? ⟨T, 1, none⟩ = some (.map (some b)) := by rw [cell_at hT, hi]; rfl
    obtain ⟨o, r1, h1⟩ := (h.m.fim b hi).look j
    cases o with
    | some i =>
      have r2 : (Instr.lookup 48 (.map (some b)) (.string (nm j)) false).run Yba.prog w = .ok (Pp i) w := r1
      have hin := h1 i rfl
      clear h1 r1
      have HP : Hid (∀ w', w' = w → ItemPost N D T w S (.returned (Pp i)) w') := fun w' e => ⟨i, rfl, S, e ▸ h, e ▸ Fr.refl _ _ _, Grew.refl S, hin⟩
      clear h hin hi hT
      go_enter Yba.func42, Yba.ntmps42
      go_wp2
      go_ret
      exact HP _ rfl
    | none =>
      have r2 : (Instr.lookup 48 (.map (some b)) (.string (nm j)) false).run Yba.prog w = .ok (.pointer none) w := r1
      have e1 := eqm48 b
      obtain ⟨w', r, S', g1, g2, g3, g4⟩ := item_new h hj hi
      have HP : Hid (∀ v, v = w.heap.size → ItemPost N D T w S (.returned (Pp v)) w') := fun v e => by
        subst e
        exact ⟨_, rfl, S', g1, g2, g3, g4⟩
      clear g1 g2 g3 g4 h hT hi h1 r1
      go_enter Yba.func42, Yba.ntmps42
      go_wp2
      go_ret
      exact HP _ rfl

end Go.Proofs.Ybulkaggi.CE

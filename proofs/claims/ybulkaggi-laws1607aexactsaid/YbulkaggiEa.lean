import Derived.Test.YbulkaggiE9
namespace Go.Proofs.Ybulkaggi
open Go.RowKit Go.Sort
set_option linter.unusedVariables false
set_option maxRecDepth 100000

theorem Ans.at1 {w w' : World} {base g : Nat} {v : Value} {L : List An} (h : Ans w base v L) (t : At1 g w w') {cs : Array Value} (hg : w.heap[g]? = some (.cells cs 32 (0, 0))) (hne : v.ownBlock ≠ some g) : Ans w' base v L := by
  refine ⟨⟨h.row.1, ?_⟩, fun x hx => ⟨(t.block _ (h.items x hx).1.lt ((h.items x hx).1.ne hg (by decide))).trans (h.items x hx).1, (h.items x hx).2⟩⟩
  rcases h.row.2 with h0 | ⟨g', cap, cur, e, h1, hg', rest⟩
  · exact .inl h0
  · refine .inr ⟨g', cap, cur, e, h1, (t.block g' (Array.getElem?_eq_some_iff.1 hg').1 ?_).trans hg', rest⟩
    subst e
    intro e
    exact hne (by simp [Value.ownBlock, e])

/-- The cells of an anomaly in its row. -/
theorem Ans.cells {w : World} {base g cp : Nat} {L : List An} (h : Ans w base (.slice (some ⟨g, 0, none⟩) L.length cp) L) (k : Nat) (hk : k < L.length) :
    w.cell? ⟨g, k * 4, none⟩ = some (.string kindV) ∧ w.cell? ⟨g, k * 4 + 1, none⟩ = some (.int .i64 L[k].1.1) ∧ w.cell? ⟨g, k * 4 + 2, none⟩ = some (.int .i64 L[k].1.2.1) ∧ w.cell? ⟨g, k * 4 + 3, none⟩ = some (.slice (some ⟨L[k].2, 0, none⟩) 2 2) := by
  have hk4 : ∀ x : An, (encA x).length = 4 := fun _ => rfl
  refine ⟨?_, ?_, ?_, ?_⟩
  · have e := flat_get hk4 L k hk 0 (by omega)
    rw [h.row.cellAt (k * 4) (by omega)]
    simpa [encA] using e
  · have e := flat_get hk4 L k hk 1 (by omega)
    rw [h.row.cellAt (k * 4 + 1) (by omega), e]; rfl
  · have e := flat_get hk4 L k hk 2 (by omega)
    rw [h.row.cellAt (k * 4 + 2) (by omega), e]; rfl
  · have e := flat_get hk4 L k hk 3 (by omega)
    rw [h.row.cellAt (k * 4 + 3) (by omega), e]; rfl

theorem Ans.some {w : World} {base : Nat} {v : Value} {L : List An} (h : Ans w base v L) (h0 : 0 < L.length) : ∃ g cp, v = .slice (some ⟨g, 0, none⟩) L.length cp := own_some h.row h0

/-- Sorted, the two lists agree. -/
theorem agree {L M : List An} (hp : (L.map (·.1)).Perm (M.map (·.1))) (hL : L.Pairwise (fun x y => ¬ cmpD y.1 x.1 < 0)) (hM : M.Pairwise (fun x y => ¬ cmpD y.1 x.1 < 0)) (k : Nat) (h1 : k < L.length) (h2 : k < M.length) : cmpD L[k].1 M[k].1 = 0 := by
  have p1 : (L.map fun x : An => keyD x.1).Pairwise (fun x y => ¬ cmpK y x < 0) := by rw [List.pairwise_map]; exact hL
  have p2 : (M.map fun x : An => keyD x.1).Pairwise (fun x y => ¬ cmpK y x < 0) := by rw [List.pairwise_map]; exact hM
  have p3 : (L.map fun x : An => keyD x.1).Perm (M.map fun x : An => keyD x.1) := by
    have h := hp.map keyD
    rw [List.map_map, List.map_map] at h
    exact h
  have e := sorted_unique cmpK_three cmpK_zero _ _ p3 p1 p2
  have e1 : (L.map fun x => keyD x.1)[k]? = (M.map fun x => keyD x.1)[k]? := by rw [e]
  rw [List.getElem?_map, List.getElem?_map, List.getElem?_eq_getElem h1, List.getElem?_eq_getElem h2] at e1
  simp only [Option.map_some, Option.some.injEq] at e1
  unfold cmpD
  rw [e1]
  exact cmpK_three.refl _

end Go.Proofs.Ybulkaggi

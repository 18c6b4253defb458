import Derived.Test.YbulkaggiFa
namespace Go.Proofs.Ybulkaggi.BM
open Go.RowKit Go.Proofs.Ybulkaggi Go.Sort Go.Shelf Go.Lib
open Go.Proofs.Ybulkaggi.CE (hlt tag_ne own_tag own_keep size_set)
set_option linter.unusedVariables false
set_option maxRecDepth 100000

theorem cell_four (w : World) (u v x y : Value) (t : TypeId) : (w.alloc (.cells #[u, v, x, y] t)).cell? ⟨w.heap.size, 0, none⟩ = some u ∧ (w.alloc (.cells #[u, v, x, y] t)).cell? ⟨w.heap.size, 1, none⟩ = some v ∧ (w.alloc (.cells #[u, v, x, y] t)).cell? ⟨w.heap.size, 2, none⟩ = some x ∧ (w.alloc (.cells #[u, v, x, y] t)).cell? ⟨w.heap.size, 3, none⟩ = some y := by
  have h := heap_alloc_new w (.cells #[u, v, x, y] t)
  exact ⟨(cell_at h 0).trans rfl, (cell_at h 1).trans rfl, (cell_at h 2).trans rfl, (cell_at h 3).trans rfl⟩
theorem it_cells {w : World} {x : An2} (h : ItN w x) (i : Nat) (hi : i < x.is.length) : w.cell? ⟨x.g, i, none⟩ = some (.string x.is[i]) := by
  rw [cell_at h i]
  simp [hi]

set_option maxHeartbeats 2000000 in
theorem cmp17 (x y : An2) (W : World) (hx : ItN W x) (hy : ItN W y) (lx : x.is.length = 1 ∨ x.is.length = 2) (ly : y.is.length = 1 ∨ y.is.length = 2) :
    Calls Yba.prog 17 #[.agg #[.string (kB x.k), .int .i64 x.a, .int .i64 x.b, .slice (some ⟨x.g, 0, none⟩) x.is.length x.is.length], .agg #[.string (kB y.k), .int .i64 y.a, .int .i64 y.b, .slice (some ⟨y.g, 0, none⟩) y.is.length y.is.length]] W fun e w' =>
      e = .returned (.int .i64 (cmpN (kn x.k0) (kn y.k0))) ∧ ∃ q os', w' = grow (W.drewN q) os' := by
  rw [cmpN_eq x y lx ly]
  have lg := hlt hx
  have lg' := hlt hy
  have SC : Hid (∀ w' : World, (∀ k, k < W.heap.size → w'.heap[k]? = W.heap[k]?) → Calls Yba.prog 38 #[.slice (some ⟨x.g, 0, none⟩) x.is.length x.is.length, .slice (some ⟨y.g, 0, none⟩) y.is.length y.is.length] w' fun e w'' => e = .returned (.int .i64 (cmpL x.is y.is)) ∧ w'' = w') := fun w' hk => slices_cmp x.g y.g _ _ _ _ x.is y.is w' rfl rfl (by omega) (by omega) (fun i h => it_cells (w := w') ((hk _ lg).trans hx) i h) (fun i h => it_cells (w := w') ((hk _ lg').trans hy) i h)
  generalize kB x.k = s at *
  generalize kB y.k = s' at *
  generalize x.a = a at *
  generalize y.a = a' at *
  generalize x.b = b at *
  generalize y.b = b' at *
  generalize cmpL x.is y.is = cl at *
  generalize x.is.length = n at *
  generalize y.is.length = n' at *
  generalize x.g = g at *
  generalize y.g = g' at *
  obtain ⟨h1, h2⟩ := two_new W (.cells #[.string s, .int .i64 a, .int .i64 b, .slice (some ⟨g, 0, none⟩) n n] 32) (.cells #[.string s', .int .i64 a', .int .i64 b', .slice (some ⟨g', 0, none⟩) n' n'] 32)
  have HG : Hid (∃ os', (W.alloc (.cells #[.string s, .int .i64 a, .int .i64 b, .slice (some ⟨g, 0, none⟩) n n] 32)).alloc (.cells #[.string s', .int .i64 a', .int .i64 b', .slice (some ⟨g', 0, none⟩) n' n'] 32) = grow (W.drewN 0) os') := ⟨_, by rw [alloc_eq_grow, alloc_eq_grow, grow_grow]; rfl⟩
  have HOLD : Hid (∀ k, k < W.heap.size → ((W.alloc (.cells #[.string s, .int .i64 a, .int .i64 b, .slice (some ⟨g, 0, none⟩) n n] 32)).alloc (.cells #[.string s', .int .i64 a', .int .i64 b', .slice (some ⟨g', 0, none⟩) n' n'] 32)).heap[k]? = W.heap[k]?) := fun k hk => (Below.heap_alloc _ _ _ (by simp; omega)).trans (Below.heap_alloc _ _ _ hk)
  have HC := hide (And.intro h1 h2)
  clear h1 h2 hx hy lx ly lg lg'
  go_enter Yba.func17, Yba.ntmps17
  go_upto_region 1 with fail
  obtain ⟨h1, h2⟩ := HC.out
  have c0 := (cell_at h1 0).trans rfl
  have c1 := (cell_at h1 1).trans rfl
  have c2 := (cell_at h1 2).trans rfl
  have c3 := (cell_at h1 3).trans rfl
  have d0 := (cell_at h2 0).trans rfl
  have d1 := (cell_at h2 1).trans rfl
  have d2 := (cell_at h2 2).trans rfl
  have d3 := (cell_at h2 3).trans rfl
  clear h1 h2 HC
  generalize (W.alloc (.cells #[.string s, .int .i64 a, .int .i64 b, .slice (some ⟨g, 0, none⟩) n n] 32)).alloc (.cells #[.string s', .int .i64 a', .int .i64 b', .slice (some ⟨g', 0, none⟩) n' n'] 32) = X at *
  have S38 := hide (SC.out X.drew HOLD.out)
  clear SC HOLD
  go_region_held3 (fun z => z.cell? ⟨W.heap.size, 0, none⟩ = some (.string s) ∧ z.cell? ⟨W.heap.size, 1, none⟩ = some (.int .i64 a) ∧ z.cell? ⟨W.heap.size, 2, none⟩ = some (.int .i64 b) ∧ z.cell? ⟨W.heap.size, 3, none⟩ = some (.slice (some ⟨g, 0, none⟩) n n) ∧ z.cell? ⟨W.heap.size + 1, 0, none⟩ = some (.string s') ∧ z.cell? ⟨W.heap.size + 1, 1, none⟩ = some (.int .i64 a') ∧ z.cell? ⟨W.heap.size + 1, 2, none⟩ = some (.int .i64 b') ∧ z.cell? ⟨W.heap.size + 1, 3, none⟩ = some (.slice (some ⟨g', 0, none⟩) n' n')) (go_keep)
    (first | (go_at_call 37; refine (cmp_kind _ _ _).mono ?_; rintro e w' ⟨rfl, hw⟩; obtain rfl := hw.symm) | (go_at_call 12; refine (cmp_int _ _ _).mono ?_; rintro e w' ⟨rfl, hw⟩; obtain rfl := hw.symm) | (go_at_call 38; refine S38.out.mono ?_; rintro e w' ⟨rfl, hw⟩; obtain rfl := hw.symm) | (go_at_call 11; refine (or_four X.heap.size (cmpS s.toList s'.toList) (cmpI a a') (cmpI b b') cl (World.drew (X.alloc (.cells #[.int .i64 (cmpS s.toList s'.toList), .int .i64 (cmpI a a'), .int .i64 (cmpI b b'), .int .i64 cl] 3))) (cell_four X _ _ _ _ 3).1 (cell_four X _ _ _ _ 3).2.1 (cell_four X _ _ _ _ 3).2.2.1 (cell_four X _ _ _ _ 3).2.2.2).mono ?_; rintro e w' ⟨rfl, hw⟩; obtain rfl := hw.symm))
  all_goals (try go_wp2_with fail)
  all_goals go_ret
  obtain ⟨os, ho⟩ := HG.out
  subst ho
  exact ⟨rfl, 1, _, by rw [alloc_eq_grow, grow_grow]; rfl⟩
end Go.Proofs.Ybulkaggi.BM

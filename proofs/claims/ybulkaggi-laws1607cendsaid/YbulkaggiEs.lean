import Derived.Test.YbulkaggiE1
import Derived.Test.YbulkaggiCe
namespace Go.Proofs.Ybulkaggi.CE
open Go.RowKit Go.Sort Go.Maps
set_option linter.unusedVariables false
set_option maxRecDepth 100000

theorem by_ign (a b a' b' : Int) (W : World) :
    Calls Yba.prog 95 #[.agg #[.int .u64 a, .int .u64 b], .agg #[.int .u64 a', .int .u64 b']] W fun e w' => e = .returned (.int .i64 (orI (cmpI a' a) (cmpI b' b))) ∧ ∃ q os', w' = grow (W.drewN q) os' := by
  have HG : Hid (∃ os', (W.alloc (.cells #[.int .u64 a, .int .u64 b] 150)).alloc (.cells #[.int .u64 a', .int .u64 b'] 150) = grow (W.drewN 0) os') := ⟨_, by rw [alloc_eq_grow, alloc_eq_grow, grow_grow]; rfl⟩
  go_enter Yba.func95, Yba.ntmps95
  go_upto_region 1 with fail
  obtain ⟨e0, e1, e2, e3⟩ : ((W.alloc (.cells #[.int .u64 a, .int .u64 b] 150)).alloc (.cells #[.int .u64 a', .int .u64 b'] 150)).cell? ⟨W.heap.size, 0, none⟩ = some (.int .u64 a) ∧ ((W.alloc (.cells #[.int .u64 a, .int .u64 b] 150)).alloc (.cells #[.int .u64 a', .int .u64 b'] 150)).cell? ⟨W.heap.size, 1, none⟩ = some (.int .u64 b) ∧
      ((W.alloc (.cells #[.int .u64 a, .int .u64 b] 150)).alloc (.cells #[.int .u64 a', .int .u64 b'] 150)).cell? ⟨W.heap.size + 1, 0, none⟩ = some (.int .u64 a') ∧ ((W.alloc (.cells #[.int .u64 a, .int .u64 b] 150)).alloc (.cells #[.int .u64 a', .int .u64 b'] 150)).cell? ⟨W.heap.size + 1, 1, none⟩ = some (.int .u64 b') := by
    obtain ⟨h1, h2⟩ := two_new W (.cells #[.int .u64 a, .int .u64 b] 150) (.cells #[.int .u64 a', .int .u64 b'] 150)
    exact ⟨(cell_at h1 0).trans rfl, (cell_at h1 1).trans rfl, (cell_at h2 0).trans rfl, (cell_at h2 1).trans rfl⟩
  generalize (W.alloc (.cells #[.int .u64 a, .int .u64 b] 150)).alloc (.cells #[.int .u64 a', .int .u64 b'] 150) = X at *
  go_region_held3 (fun x => x.cell? ⟨W.heap.size, 0, none⟩ = some (.int .u64 a) ∧ x.cell? ⟨W.heap.size, 1, none⟩ = some (.int .u64 b) ∧ x.cell? ⟨W.heap.size + 1, 0, none⟩ = some (.int .u64 a') ∧ x.cell? ⟨W.heap.size + 1, 1, none⟩ = some (.int .u64 b')) (go_keep)
    (first | (go_at_call 92; refine (cmp_any _ _ _).mono ?_; rintro e w' ⟨rfl, hw⟩; obtain rfl := hw.symm) | (go_at_call 11; refine (or_two X.heap.size (cmpI a' a) (cmpI b' b) (World.drew (X.alloc (.cells #[.int .i64 (cmpI a' a), .int .i64 (cmpI b' b)] 3))) (cell_two X _ _ 3).1 (cell_two X _ _ 3).2).mono ?_; rintro e w' ⟨rfl, hw⟩; obtain rfl := hw.symm))
  all_goals (try go_wp2_with fail)
  all_goals go_ret
  obtain ⟨os, ho⟩ := HG.out
  subst ho
  exact ⟨rfl, 1, _, by rw [alloc_eq_grow]; exact congrArg World.drew (grow_grow _ _ _)⟩

end Go.Proofs.Ybulkaggi.CE

import Derived.Test.YbulkaggiProg
import Derived.WalkKit
import Derived.WalkSpells
import Derived.WalkLawsBesides
import Derived.OwnWalk
import Derived.Below
import Derived.Sort.Walk0
import Derived.Sort.Grow
import Derived.Deep.RegionHeld3
import Derived.Deep.DeepCutAuto
namespace Go.Proofs.Ybulkaggi
open Go.RowKit Go.Sort
set_option linter.unusedVariables false
set_option maxRecDepth 100000

theorem hide {p : Prop} (h : p) : Hid p := h
theorem unhide {p : Prop} (h : Hid p) : p := h

def cmpI (x y : Int) : Int := if x < y then -1 else if y < x then 1 else 0

theorem nan_int (x : Int) (w : World) : Calls Yba.prog 28 #[.int .i64 x] w fun e w' => e = .returned (.bool false) ∧ w' = w := by
  go_enter Yba.func28, Yba.ntmps28
  go_wp2
  go_ret
  exact ⟨by simp, rfl⟩

theorem cmp_int (x y : Int) (w : World) : Calls Yba.prog 12 #[.int .i64 x, .int .i64 y] w fun e w' => e = .returned (.int .i64 (cmpI x y)) ∧ w' = w := by
  go_enter Yba.func12, Yba.ntmps12
  go_wp2_with (go_at_call 28; refine (nan_int _ _).mono ?_; rintro e w' ⟨rfl, hw⟩; rw [hw])
  all_goals (go_ret; refine ⟨?_, rfl⟩; unfold cmpI; (repeat' split) <;> first | rfl | (exfalso; omega))

theorem nan_str (x : ByteArray) (w : World) : Calls Yba.prog 55 #[.string x] w fun e w' => e = .returned (.bool false) ∧ w' = w := by
  go_enter Yba.func55, Yba.ntmps55
  go_wp2
  go_ret
  exact ⟨by simp, rfl⟩

def cmpS (x y : List UInt8) : Int := if x < y then -1 else if x = y then 0 else 1

theorem cmp_str (x y : ByteArray) (w : World) : Calls Yba.prog 27 #[.string x, .string y] w fun e w' => e = .returned (.int .i64 (cmpS x.toList y.toList)) ∧ w' = w := by
  go_enter Yba.func27, Yba.ntmps27
  go_wp2_with (go_at_call 55; refine (nan_str _ _).mono ?_; rintro e w' ⟨rfl, hw⟩; rw [hw])
  · rename_i h
    go_ret
    rw [bytesLess_eq] at h
    have h' := of_decide_eq_true h
    exact ⟨by simp only [cmpS, if_pos h']; rfl, rfl⟩
  · rename_i h1 _ _ h2
    go_ret
    rw [bytesLess_eq] at h1
    have h1' := of_decide_eq_false h1
    have h2' : ¬ x.toList = y.toList := by simpa using h2
    exact ⟨by simp only [cmpS, if_neg h1', if_neg h2']; rfl, rfl⟩
  · rename_i h1 h2
    go_ret
    rw [bytesLess_eq] at h1
    have h1' := of_decide_eq_false h1
    have h2' : x.toList = y.toList := by simpa using h2
    exact ⟨by simp only [cmpS, if_neg h1', if_pos h2']; rfl, rfl⟩

def orI (x y : Int) : Int := if x = 0 then y else x

theorem or_two (g : Nat) (x y : Int) (w : World) (h0 : w.cell? ⟨g, 0, none⟩ = some (.int .i64 x)) (h1 : w.cell? ⟨g, 1, none⟩ = some (.int .i64 y)) :
    Calls Yba.prog 11 #[.slice (some ⟨g, 0, none⟩) 2 2] w fun e w' => e = .returned (.int .i64 (orI x y)) ∧ w' = w := by
  go_enter Yba.func11, Yba.ntmps11
  go_wp2
  go_loopw [8] (fun q wr => ∃ k : Nat, k ≤ 2 ∧ q = .int .i64 k ∧ (0 < k → x = 0) ∧ (1 < k → y = 0) ∧ wr = w) (fun q _ => 2 - (intOf q).toNat)
  case atStart => exact ⟨0, by omega, rfl, fun h => absurd h (by omega), fun h => absurd h (by omega), rfl⟩
  case round =>
    obtain ⟨k, hk, rfl, hx, hy, hw⟩ := hrel
    obtain rfl := hw.symm
    rcases (by omega : k = 0 ∨ k = 1 ∨ k = 2) with rfl | rfl | rfl
    · by_cases hx0 : x = 0
      · subst hx0
        go_wp2
        go_roundw
        case rel => exact ⟨1, by omega, by go_num, fun _ => (by first | rfl | trivial), fun h => absurd h (by omega), by first | rfl | trivial⟩
        case measure => simp [intOf]
      · go_wp2
        go_ret
        exact ⟨by unfold orI; rw [if_neg hx0]; rfl, rfl⟩
    · obtain rfl := hx (by omega)
      by_cases hy0 : y = 0
      · subst hy0
        go_wp2
        go_roundw
        case rel => exact ⟨2, by omega, by go_num, fun _ => (by first | rfl | trivial), fun _ => (by first | rfl | trivial), by first | rfl | trivial⟩
        case measure => simp [intOf]
      · go_wp2
        go_ret
        exact ⟨by unfold orI; rw [if_pos rfl]; rfl, rfl⟩
    · obtain rfl := hx (by omega)
      obtain rfl := hy (by omega)
      go_wp2
      go_ret
      exact ⟨by simp [orI], rfl⟩

def cmpP (a b a' b' : Int) : Int := orI (cmpI a a') (cmpI b b')

theorem cell_at {w : World} {b : Nat} {cs : Array Value} {t : TypeId} (h : w.heap[b]? = some (.cells cs t (0, 0))) (i : Nat) : w.cell? ⟨b, i, none⟩ = cs[i]? := by simp [World.cell?, h]
theorem free_at {w : World} {b : Nat} {cs : Array Value} {t : TypeId} (h : w.heap[b]? = some (.cells cs t (0, 0))) (i : Nat) : w.frozen? ⟨b, i, none⟩ = false := by simp [World.frozen?, h]
theorem two_new (w : World) (o o' : Obj) : ((w.alloc o).alloc o').heap[w.heap.size]? = some o ∧ ((w.alloc o).alloc o').heap[w.heap.size + 1]? = some o' := by
  have h := heap_alloc_new (w.alloc o) o'
  exact ⟨(Below.heap_alloc _ _ _ (by simp)).trans (heap_alloc_new w o), by simpa using h⟩

theorem cell_two (w : World) (u v : Value) (t : TypeId) : (w.alloc (.cells #[u, v] t)).cell? ⟨w.heap.size, 0, none⟩ = some u ∧ (w.alloc (.cells #[u, v] t)).cell? ⟨w.heap.size, 1, none⟩ = some v := by
  exact ⟨(cell_at (heap_alloc_new w _) 0).trans rfl, (cell_at (heap_alloc_new w _) 1).trans rfl⟩

theorem by_pair (a b : Int) (s : ByteArray) (a' b' : Int) (s' : ByteArray) (W : World) :
    Calls Yba.prog 23 #[.agg #[.int .i64 a, .int .i64 b, .string s], .agg #[.int .i64 a', .int .i64 b', .string s']] W fun e w' => e = .returned (.int .i64 (cmpP a b a' b')) ∧ ∃ q os', w' = grow (W.drewN q) os' := by
  have HG : Hid (∃ os', (W.alloc (.cells #[.int .i64 a, .int .i64 b, .string s] 74)).alloc (.cells #[.int .i64 a', .int .i64 b', .string s'] 74) = grow (W.drewN 0) os') := ⟨_, by rw [alloc_eq_grow, alloc_eq_grow, grow_grow]; rfl⟩
  go_enter Yba.func23, Yba.ntmps23
  go_upto_region 1 with fail
  obtain ⟨e0, e1, e2, e3⟩ : ((W.alloc (.cells #[.int .i64 a, .int .i64 b, .string s] 74)).alloc (.cells #[.int .i64 a', .int .i64 b', .string s'] 74)).cell? ⟨W.heap.size, 0, none⟩ = some (.int .i64 a) ∧ ((W.alloc (.cells #[.int .i64 a, .int .i64 b, .string s] 74)).alloc (.cells #[.int .i64 a', .int .i64 b', .string s'] 74)).cell? ⟨W.heap.size, 1, none⟩ = some (.int .i64 b) ∧
      ((W.alloc (.cells #[.int .i64 a, .int .i64 b, .string s] 74)).alloc (.cells #[.int .i64 a', .int .i64 b', .string s'] 74)).cell? ⟨W.heap.size + 1, 0, none⟩ = some (.int .i64 a') ∧ ((W.alloc (.cells #[.int .i64 a, .int .i64 b, .string s] 74)).alloc (.cells #[.int .i64 a', .int .i64 b', .string s'] 74)).cell? ⟨W.heap.size + 1, 1, none⟩ = some (.int .i64 b') := by
    obtain ⟨h1, h2⟩ := two_new W (.cells #[.int .i64 a, .int .i64 b, .string s] 74) (.cells #[.int .i64 a', .int .i64 b', .string s'] 74)
    exact ⟨(cell_at h1 0).trans rfl, (cell_at h1 1).trans rfl, (cell_at h2 0).trans rfl, (cell_at h2 1).trans rfl⟩
  generalize (W.alloc (.cells #[.int .i64 a, .int .i64 b, .string s] 74)).alloc (.cells #[.int .i64 a', .int .i64 b', .string s'] 74) = X at *
  go_region_held3 (fun x => x.cell? ⟨W.heap.size, 0, none⟩ = some (.int .i64 a) ∧ x.cell? ⟨W.heap.size, 1, none⟩ = some (.int .i64 b) ∧ x.cell? ⟨W.heap.size + 1, 0, none⟩ = some (.int .i64 a') ∧ x.cell? ⟨W.heap.size + 1, 1, none⟩ = some (.int .i64 b')) (go_keep)
    (first | (go_at_call 12; refine (cmp_int _ _ _).mono ?_; rintro e w' ⟨rfl, hw⟩; obtain rfl := hw.symm) | (go_at_call 11; refine (or_two X.heap.size (cmpI a a') (cmpI b b') (World.drew (X.alloc (.cells #[.int .i64 (cmpI a a'), .int .i64 (cmpI b b')] 3))) (cell_two X _ _ 3).1 (cell_two X _ _ 3).2).mono ?_; rintro e w' ⟨rfl, hw⟩; obtain rfl := hw.symm))
  all_goals (try go_wp2_with fail)
  all_goals go_ret
  obtain ⟨os, ho⟩ := HG.out
  subst ho
  exact ⟨rfl, 1, _, by rw [alloc_eq_grow]; exact congrArg World.drew (grow_grow _ _ _)⟩

end Go.Proofs.Ybulkaggi

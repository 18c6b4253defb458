import Derived.Test.YbulkaggiB6
import Derived.Test.YbulkaggiE4
import Derived.Shelf.SlSortCmp.Whole1
import Derived.Shelf.SlSortCmp.NoneTotal
import Derived.Shelf.Lay
import Derived.Ground.SlsfProg
import Derived.Lib.Bytealg
namespace Go.Proofs.Ybulkaggi.BM
open Go.RowKit Go.Proofs.Ybulkaggi Go.Sort
set_option linter.unusedVariables false
set_option maxRecDepth 100000

/-! ### strings.Compare -/
theorem cmpBytes_any (a b : ByteArray) (w : World) : Calls Yba.prog 87 #[.string a, .string b] w fun e w' => e = .returned (.int .i64 (Lib.compareBytes a.data.toList b.data.toList)) ∧ w' = w := by
  go_enter Yba.func87, Yba.ntmps87
  go_wp2
  rw [run_callFunc_extern Yba.func109 (by kernel_rfl) (by kernel_rfl) (by kernel_rfl) (e := Extern.BytealgCompare.compare) (by kernel_rfl), Lib.run_compareString]
  simp only [Result.andThen]
  rw [Oper.upon_value]
  go_wp2
  go_ret
  exact ⟨rfl, rfl⟩
theorem strCmp_any (a b : ByteArray) (w : World) : Calls Yba.prog 59 #[.string a, .string b] w fun e w' => e = .returned (.int .i64 (Lib.compareBytes a.data.toList b.data.toList)) ∧ w' = w := by
  go_enter Yba.func59, Yba.ntmps59
  go_wp2_with (go_at_call 87; refine (cmpBytes_any _ _ _).mono ?_; rintro e w' ⟨rfl, hw⟩; obtain rfl := hw.symm)
  go_ret
  exact ⟨rfl, rfl⟩

/-! ### cmp.Or at three -/
theorem or_three (g : Nat) (x y z : Int) (w : World) (h0 : w.cell? ⟨g, 0, none⟩ = some (.int .i64 x)) (h1 : w.cell? ⟨g, 1, none⟩ = some (.int .i64 y)) (h2 : w.cell? ⟨g, 2, none⟩ = some (.int .i64 z)) :
    Calls Yba.prog 11 #[.slice (some ⟨g, 0, none⟩) 3 3] w fun e w' => e = .returned (.int .i64 (orI x (orI y z))) ∧ w' = w := by
  go_enter Yba.func11, Yba.ntmps11
  go_wp2
  go_loopw [8] (fun q wr => ∃ k : Nat, k ≤ 3 ∧ q = .int .i64 k ∧ (0 < k → x = 0) ∧ (1 < k → y = 0) ∧ (2 < k → z = 0) ∧ wr = w) (fun q _ => 3 - (intOf q).toNat)
  case atStart => exact ⟨0, by omega, rfl, fun h => absurd h (by omega), fun h => absurd h (by omega), fun h => absurd h (by omega), rfl⟩
  case round =>
    obtain ⟨k, hk, rfl, hx, hy, hz, hw⟩ := hrel
    obtain rfl := hw.symm
    rcases (by omega : k = 0 ∨ k = 1 ∨ k = 2 ∨ k = 3) with rfl | rfl | rfl | rfl
    · by_cases hx0 : x = 0
      · subst hx0
        go_wp2
        go_roundw
        case rel => exact ⟨1, by omega, by go_num, fun _ => (by first | rfl | trivial), fun h => absurd h (by omega), fun h => absurd h (by omega), by first | rfl | trivial⟩
        case measure => simp [intOf]
      · go_wp2
        go_ret
        exact ⟨by unfold orI; rw [if_neg hx0]; rfl, rfl⟩
    · obtain rfl := hx (by omega)
      by_cases hy0 : y = 0
      · subst hy0
        go_wp2
        go_roundw
        case rel => exact ⟨2, by omega, by go_num, fun _ => (by first | rfl | trivial), fun _ => (by first | rfl | trivial), fun h => absurd h (by omega), by first | rfl | trivial⟩
        case measure => simp [intOf]
      · go_wp2
        go_ret
        exact ⟨by unfold orI; rw [if_pos rfl, if_neg hy0]; rfl, rfl⟩
    · obtain rfl := hx (by omega)
      obtain rfl := hy (by omega)
      by_cases hz0 : z = 0
      · subst hz0
        go_wp2
        go_roundw
        case rel => exact ⟨3, by omega, by go_num, fun _ => (by first | rfl | trivial), fun _ => (by first | rfl | trivial), fun _ => (by first | rfl | trivial), by first | rfl | trivial⟩
        case measure => simp [intOf]
      · go_wp2
        go_ret
        exact ⟨by simp [orI], rfl⟩
    · obtain rfl := hx (by omega)
      obtain rfl := hy (by omega)
      obtain rfl := hz (by omega)
      go_wp2
      go_ret
      exact ⟨by simp [orI], rfl⟩

/-! ### The order of the positions -/
def cmpO (L : List O3) (p q : Nat) : Int := orI (Lib.compareBytes (itB (L.getD p (3, 0, 0))).data.toList (itB (L.getD q (3, 0, 0))).data.toList) (orI (cmpI ((L.getD p (3, 0, 0)).2.1 : Nat) ((L.getD q (3, 0, 0)).2.1 : Nat)) (cmpI (p : Nat) (q : Nat)))
theorem getD_at {L : List O3} {p : Nat} (h : p < L.length) : L.getD p (3, 0, 0) = L[p] := by simp [List.getD, List.getElem?_eq_getElem h]
theorem cell_three (w : World) (u v x : Value) (t : TypeId) : (w.alloc (.cells #[u, v, x] t)).cell? ⟨w.heap.size, 0, none⟩ = some u ∧ (w.alloc (.cells #[u, v, x] t)).cell? ⟨w.heap.size, 1, none⟩ = some v ∧ (w.alloc (.cells #[u, v, x] t)).cell? ⟨w.heap.size, 2, none⟩ = some x := by
  have h := heap_alloc_new w (.cells #[u, v, x] t)
  exact ⟨(cell_at h 0).trans rfl, (cell_at h 1).trans rfl, (cell_at h 2).trans rfl⟩

set_option maxHeartbeats 2000000 in
theorem byItem_any {g n c bx p q : Nat} {L : List O3} (W : World) (h : OpsAt W g L) (hn : L.length = n) (hp : p < n) (hq : q < n) (hb : W.cell? ⟨bx, 0, none⟩ = some (.slice (some ⟨g, 0, none⟩) n c)) :
    Calls Yba.prog 58 #[.int .i64 (p : Int), .int .i64 (q : Int), .pointer (some ⟨bx, 0, none⟩)] W fun e w' => e = .returned (.int .i64 (cmpO L p q)) ∧ ∃ m os', w' = grow (W.drewN m) os' := by
  have hp' : (p : Int) < (n : Int) := by omega
  have hq' : (q : Int) < (n : Int) := by omega
  have a1 := h.t p (by omega)
  have a2 := h.i p (by omega)
  have b1 := h.t q (by omega)
  have b2 := h.i q (by omega)
  have HC : Hid (cmpO L p q = orI (Lib.compareBytes (itB (L[p]'(by omega))).data.toList (itB (L[q]'(by omega))).data.toList) (orI (cmpI ((L[p]'(by omega)).2.1 : Nat) ((L[q]'(by omega)).2.1 : Nat)) (cmpI (p : Nat) (q : Nat)))) := by
    show _ = _
    unfold cmpO
    rw [getD_at (by omega), getD_at (by omega)]
  generalize L[p]'(by omega) = o at *
  generalize L[q]'(by omega) = o' at *
  generalize itB o = s at *
  generalize itB o' = s' at *
  obtain ⟨t, ht⟩ : ∃ t, o.2.1 = t := ⟨_, rfl⟩
  obtain ⟨t', ht'⟩ : ∃ t', o'.2.1 = t' := ⟨_, rfl⟩
  rw [ht] at a1 HC
  rw [ht'] at b1 HC
  clear h hn ht ht'
  have HG : Hid (∀ v : Obj, ∃ os', W.alloc v = grow (W.drewN 0) os') := fun v => ⟨_, by rw [alloc_eq_grow]; rfl⟩
  go_enter Yba.func58, Yba.ntmps58
  go_upto_region 1 with fail
  go_region_held3 (fun x => x.cell? ⟨bx, 0, none⟩ = some (.slice (some ⟨g, 0, none⟩) n c) ∧ x.cell? ⟨g, p * 3 + 1, none⟩ = some (.int .i64 (t : Int)) ∧ x.cell? ⟨g, p * 3 + 2, none⟩ = some (.string s) ∧ x.cell? ⟨g, q * 3 + 1, none⟩ = some (.int .i64 (t' : Int)) ∧ x.cell? ⟨g, q * 3 + 2, none⟩ = some (.string s')) (go_keep)
    (first | (go_at_call 59; refine (strCmp_any _ _ _).mono ?_; rintro e w' ⟨rfl, hw⟩; obtain rfl := hw.symm) | (go_at_call 12; refine (cmp_int _ _ _).mono ?_; rintro e w' ⟨rfl, hw⟩; obtain rfl := hw.symm) | (go_at_call 11; refine (or_three W.heap.size (Lib.compareBytes s.data.toList s'.data.toList) (cmpI t t') (cmpI p q) (World.drew (W.alloc (.cells #[.int .i64 (Lib.compareBytes s.data.toList s'.data.toList), .int .i64 (cmpI t t'), .int .i64 (cmpI p q)] 3))) (cell_three W _ _ _ 3).1 (cell_three W _ _ _ 3).2.1 (cell_three W _ _ _ 3).2.2).mono ?_; rintro e w' ⟨rfl, hw⟩; obtain rfl := hw.symm))
  all_goals (try go_wp2_with fail)
  all_goals go_ret
  obtain ⟨os, ho⟩ := HG.out (.cells #[.int .i64 (Lib.compareBytes s.data.toList s'.data.toList), .int .i64 (cmpI t t'), .int .i64 (cmpI p q)] 3)
  exact ⟨by rw [HC.out]; rfl, 1, _, by rw [alloc_eq_grow]; rfl⟩
end Go.Proofs.Ybulkaggi.BM

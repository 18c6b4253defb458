import Derived.Test.YbulkaggiBr
import Derived.Deep.RegionLaw
import Derived.Deep.RegionHeld3
import Derived.BigQuiet
namespace Go.Proofs.Ybulkaggi.BM
open Go.RowKit Go.Proofs.Ybulkaggi Go.Sort Go.Shelf Go.Lib
open Go.Proofs.Ybulkaggi.CE (hlt tag_ne own_tag own_keep size_set grown_alloc grown_drewN info_at rgOf step_append sl_shape grown_of_drew)
set_option linter.unusedVariables false
set_option maxRecDepth 100000

set_option maxHeartbeats 4000000 in
theorem p_r6 {QQ : Exit → Act → World → Prop} {XO gp m cp lo p g n c : Nat} {s : ByteArray} {w : World} {y0 y1 y3 y4 y5 y6 y7 y10 y11 y12 y13 y14 y15 y16 y17 y18 y19 y20 y21 y22 y23 y24 y25 y26 y27 y28 y29 y30 y31 y32 y33 y34 y35 y36 y37 y38 y39 y40 y41 y42 y43 y44 y45 y46 y47 y48 y49 y50 y51 y52 y53 y54 y55 y56 y57 y58 y59 y60 y61 y62 : Value}
    (hlo : lo < m) (hp : p < n) (h1 : w.cell? ⟨XO, 0, none⟩ = some (.slice (some ⟨g, 0, none⟩) n c)) (h2 : w.cell? ⟨gp, lo, none⟩ = some (.int .i64 (p : Int))) (h3 : w.cell? ⟨g, p * 3 + 2, none⟩ = some (.string s)) (l1 : XO < w.heap.size) (l2 : gp < w.heap.size) (l3 : g < w.heap.size)
    (hK : ∀ (t19 t20 t21 t22 t23 t24 t25 t26 : Value) (wx : World), w.grownBy wx none → wx.heap[w.heap.size]? = some (.cells #[.string s] 9 (0, 0)) → QQ .normal { tmps := List.toArray (y0 :: y1 :: (Pp XO) :: y3 :: y4 :: y5 :: y6 :: y7 :: (.slice (some ⟨gp, 0, none⟩) m cp) :: (.int .i64 (lo : Int)) :: (Pp w.heap.size) :: y11 :: y12 :: y13 :: y14 :: y15 :: y16 :: y17 :: y18 :: (t19) :: (t20) :: (t21) :: (t22) :: (t23) :: (t24) :: (t25) :: (t26) :: y27 :: y28 :: y29 :: y30 :: y31 :: y32 :: y33 :: y34 :: y35 :: y36 :: y37 :: y38 :: y39 :: y40 :: y41 :: y42 :: y43 :: y44 :: y45 :: y46 :: y47 :: y48 :: y49 :: y50 :: y51 :: y52 :: y53 :: y54 :: y55 :: y56 :: y57 :: y58 :: y59 :: y60 :: y61 :: y62 :: []), defers := [] } wx) :
    Code.wp Yba.prog (rgOf Yba.f14.body 6) QQ { tmps := List.toArray (y0 :: y1 :: (Pp XO) :: y3 :: y4 :: y5 :: y6 :: y7 :: (.slice (some ⟨gp, 0, none⟩) m cp) :: (.int .i64 (lo : Int)) :: y10 :: y11 :: y12 :: y13 :: y14 :: y15 :: y16 :: y17 :: y18 :: y19 :: y20 :: y21 :: y22 :: y23 :: y24 :: y25 :: y26 :: y27 :: y28 :: y29 :: y30 :: y31 :: y32 :: y33 :: y34 :: y35 :: y36 :: y37 :: y38 :: y39 :: y40 :: y41 :: y42 :: y43 :: y44 :: y45 :: y46 :: y47 :: y48 :: y49 :: y50 :: y51 :: y52 :: y53 :: y54 :: y55 :: y56 :: y57 :: y58 :: y59 :: y60 :: y61 :: y62 :: []), defers := [] } w := by
  have HK := hide hK
  clear hK
  have hlo' : (lo : Int) < (m : Int) := by omega
  have hp' : (p : Int) < (n : Int) := by omega
  have FIN := hide (show ∀ k, w.grownBy ((w.alloc (.cells #[.string s] 9)).drewN k) none ∧ ((w.alloc (.cells #[.string s] 9)).drewN k).heap[w.heap.size]? = some (.cells #[.string s] 9 (0, 0)) from fun k => ⟨grown_drewN (grown_alloc _ _) k, heap_alloc_new w _⟩)
  conv => arg 2; whnf
  refine wp_region_noPanic ?_
  go_region
  all_goals (try go_wp2_with fail)
  all_goals exact HK.out _ _ _ _ _ _ _ _ _ (FIN.out 1).1 (FIN.out 1).2

set_option maxHeartbeats 4000000 in
theorem p_r8t {QQ : Exit → Act → World → Prop} {XO XI gp m cp hi p g n c i j : Nat} {w : World} {y0 y1 y3 y4 y5 y6 y7 y9 y12 y13 y14 y15 y16 y17 y18 y19 y20 y21 y22 y23 y24 y25 y26 y27 y28 y29 y30 y31 y32 y33 y34 y35 y36 y37 y38 y39 y40 y41 y42 y43 y44 y45 y46 y47 y48 y49 y50 y51 y52 y53 y54 y55 y56 y57 y58 y59 y60 y61 y62 : Value}
    (hhi : hi < m) (hp : p < n) (hi3 : i < 3) (hj3 : j < 3) (h1 : w.cell? ⟨XO, 0, none⟩ = some (.slice (some ⟨g, 0, none⟩) n c)) (h2 : w.cell? ⟨gp, hi, none⟩ = some (.int .i64 (p : Int))) (h3 : w.cell? ⟨g, p * 3 + 2, none⟩ = some (.string (itS i))) (h4 : w.cell? ⟨XI, 0, none⟩ = some (.string (itS j)))
    (hK : ∀ (t28 t29 t30 t31 t32 t33 t34 t35 t36 t37 t38 t39 t40 t41 t42 : Value) (nq : Nat), QQ .normal { tmps := List.toArray (y0 :: y1 :: (Pp XO) :: y3 :: y4 :: y5 :: y6 :: y7 :: (.slice (some ⟨gp, 0, none⟩) m cp) :: y9 :: (Pp XI) :: (.int .i64 (hi : Int)) :: y12 :: y13 :: y14 :: y15 :: y16 :: y17 :: y18 :: y19 :: y20 :: y21 :: y22 :: y23 :: y24 :: y25 :: y26 :: y27 :: (t28) :: (t29) :: (t30) :: (t31) :: (t32) :: (t33) :: (t34) :: (t35) :: (t36) :: (t37) :: (t38) :: (t39) :: (t40) :: (t41) :: (t42) :: (.bool (decide (i = j))) :: y44 :: y45 :: y46 :: y47 :: y48 :: y49 :: y50 :: y51 :: y52 :: y53 :: y54 :: y55 :: y56 :: y57 :: y58 :: y59 :: y60 :: y61 :: y62 :: []), defers := [] } (w.drewN nq)) :
    Code.wp Yba.prog (rgOf Yba.f14.body 8) QQ { tmps := List.toArray (y0 :: y1 :: (Pp XO) :: y3 :: y4 :: y5 :: y6 :: y7 :: (.slice (some ⟨gp, 0, none⟩) m cp) :: y9 :: (Pp XI) :: (.int .i64 (hi : Int)) :: y12 :: y13 :: y14 :: y15 :: y16 :: y17 :: y18 :: y19 :: y20 :: y21 :: y22 :: y23 :: y24 :: y25 :: y26 :: y27 :: y28 :: y29 :: y30 :: y31 :: y32 :: y33 :: y34 :: y35 :: y36 :: y37 :: y38 :: y39 :: y40 :: y41 :: y42 :: y43 :: y44 :: y45 :: y46 :: y47 :: y48 :: y49 :: y50 :: y51 :: y52 :: y53 :: y54 :: y55 :: y56 :: y57 :: y58 :: y59 :: y60 :: y61 :: y62 :: []), defers := [] } w := by
  have HK := hide hK
  clear hK
  have hhi' : (hi : Int) < (m : Int) := by omega
  have hp' : (p : Int) < (n : Int) := by omega
  conv => arg 2; whnf
  by_cases e : i = j
  · subst e
    have X := hide (show decide (i = i) = true by simp)
    rw [X.out] at HK
    generalize itS i = s at *
    go_quiet (fail)
    (try go_wp2)
    exact HK.out _ _ _ _ _ _ _ _ _ _ _ _ _ _ _ _
  · have X := hide (show decide (i = j) = false by simp [e])
    rw [X.out] at HK
    have q1 : ((itS i).toList == (itS j).toList) = false := by
      simp only [beq_eq_false_iff_ne]
      exact fun h => e ((itS_L hi3 hj3).1 h)
    have q2 : (itS i == itS j) = false := by rw [itS_eq hi3 hj3]; simp [e]
    have q3 : ¬ itS i = itS j := fun h => e ((itS_L hi3 hj3).1 (by rw [h]))
    generalize itS i = s at *
    generalize itS j = s2 at *
    go_quiet (fail)
    (try go_wp2)
    exact HK.out _ _ _ _ _ _ _ _ _ _ _ _ _ _ _ _

set_option maxHeartbeats 4000000 in
theorem p_r8f {QQ : Exit → Act → World → Prop} {XO XI gp m cp hi : Nat} {w : World} {y0 y1 y3 y4 y5 y6 y7 y9 y12 y13 y14 y15 y16 y17 y18 y19 y20 y21 y22 y23 y24 y25 y26 y27 y28 y29 y30 y31 y32 y33 y34 y35 y36 y37 y38 y39 y40 y41 y42 y43 y44 y45 y46 y47 y48 y49 y50 y51 y52 y53 y54 y55 y56 y57 y58 y59 y60 y61 y62 : Value}
    (hhi : ¬ hi < m)
    (hK : ∀ (t28 t29 t30 t31 t32 t33 t34 t35 t36 t37 t38 t39 t40 t41 t42 : Value) (nq : Nat), QQ .normal { tmps := List.toArray (y0 :: y1 :: (Pp XO) :: y3 :: y4 :: y5 :: y6 :: y7 :: (.slice (some ⟨gp, 0, none⟩) m cp) :: y9 :: (Pp XI) :: (.int .i64 (hi : Int)) :: y12 :: y13 :: y14 :: y15 :: y16 :: y17 :: y18 :: y19 :: y20 :: y21 :: y22 :: y23 :: y24 :: y25 :: y26 :: y27 :: (t28) :: (t29) :: (t30) :: (t31) :: (t32) :: (t33) :: (t34) :: (t35) :: (t36) :: (t37) :: (t38) :: (t39) :: (t40) :: (t41) :: (t42) :: (.bool false) :: y44 :: y45 :: y46 :: y47 :: y48 :: y49 :: y50 :: y51 :: y52 :: y53 :: y54 :: y55 :: y56 :: y57 :: y58 :: y59 :: y60 :: y61 :: y62 :: []), defers := [] } (w.drewN nq)) :
    Code.wp Yba.prog (rgOf Yba.f14.body 8) QQ { tmps := List.toArray (y0 :: y1 :: (Pp XO) :: y3 :: y4 :: y5 :: y6 :: y7 :: (.slice (some ⟨gp, 0, none⟩) m cp) :: y9 :: (Pp XI) :: (.int .i64 (hi : Int)) :: y12 :: y13 :: y14 :: y15 :: y16 :: y17 :: y18 :: y19 :: y20 :: y21 :: y22 :: y23 :: y24 :: y25 :: y26 :: y27 :: y28 :: y29 :: y30 :: y31 :: y32 :: y33 :: y34 :: y35 :: y36 :: y37 :: y38 :: y39 :: y40 :: y41 :: y42 :: y43 :: y44 :: y45 :: y46 :: y47 :: y48 :: y49 :: y50 :: y51 :: y52 :: y53 :: y54 :: y55 :: y56 :: y57 :: y58 :: y59 :: y60 :: y61 :: y62 :: []), defers := [] } w := by
  have HK := hide hK
  clear hK
  have hhi' : ¬ (hi : Int) < (m : Int) := by omega
  conv => arg 2; whnf
  go_quiet (fail)
  (try go_wp2)
  exact HK.out _ _ _ _ _ _ _ _ _ _ _ _ _ _ _ _

set_option maxHeartbeats 4000000 in
theorem p_r11 {QQ : Exit → Act → World → Prop} {mb XO XF XB XA XI XN gp m cp lo hi g n c : Nat} {A : Value → World → Prop} {B : World → Prop} {w : World} {y0 y3 y4 y13 y14 y15 y16 y17 y18 y19 y20 y21 y22 y23 y24 y25 y26 y27 y28 y29 y30 y31 y32 y33 y34 y35 y36 y37 y38 y39 y40 y41 y42 y43 y44 y45 y46 y47 y48 y49 y50 y51 y52 y53 y54 y55 y56 y57 y58 y59 y60 y61 y62 : Value}
    (hlo : lo < hi) (hhi : hi ≤ m) (hm : m ≤ cp) (hcp : cp ≤ 9223372036854775807) (h1 : w.cell? ⟨XO, 0, none⟩ = some (.slice (some ⟨g, 0, none⟩) n c)) (C31 : Calls Yba.prog 31 #[.slice (some ⟨g, 0, none⟩) n c, .map (some mb), .slice (some ⟨gp, lo, none⟩) (hi - lo) (cp - lo)] w.drew (fun e w1 => ∃ v, e = .returned v ∧ A v w1)) (C30 : ∀ v w1, A v w1 → Calls Yba.prog 30 #[v, .func (.func 32) #[] #[Pp XO, Pp XF, Pp XN, Pp XB, Pp XI, Pp XA]] w1 (fun e w2 => e = .returned (.tuple #[]) ∧ B w2))
    (hK : ∀ (t48 t49 t50 t51 t52 t53 t54 t55 t56 : Value) (wx : World), B wx → QQ .normal { tmps := List.toArray (y0 :: (.map (some mb)) :: (Pp XO) :: y3 :: y4 :: (Pp XF) :: (Pp XB) :: (Pp XA) :: (.slice (some ⟨gp, 0, none⟩) m cp) :: (.int .i64 (lo : Int)) :: (Pp XI) :: (.int .i64 (hi : Int)) :: (Pp XN) :: y13 :: y14 :: y15 :: y16 :: y17 :: y18 :: y19 :: y20 :: y21 :: y22 :: y23 :: y24 :: y25 :: y26 :: y27 :: y28 :: y29 :: y30 :: y31 :: y32 :: y33 :: y34 :: y35 :: y36 :: y37 :: y38 :: y39 :: y40 :: y41 :: y42 :: y43 :: y44 :: y45 :: y46 :: y47 :: (t48) :: (t49) :: (t50) :: (t51) :: (t52) :: (t53) :: (t54) :: (t55) :: (t56) :: y57 :: y58 :: y59 :: y60 :: y61 :: y62 :: []), defers := [] } wx) :
    Code.wp Yba.prog (rgOf Yba.f14.body 11) QQ { tmps := List.toArray (y0 :: (.map (some mb)) :: (Pp XO) :: y3 :: y4 :: (Pp XF) :: (Pp XB) :: (Pp XA) :: (.slice (some ⟨gp, 0, none⟩) m cp) :: (.int .i64 (lo : Int)) :: (Pp XI) :: (.int .i64 (hi : Int)) :: (Pp XN) :: y13 :: y14 :: y15 :: y16 :: y17 :: y18 :: y19 :: y20 :: y21 :: y22 :: y23 :: y24 :: y25 :: y26 :: y27 :: y28 :: y29 :: y30 :: y31 :: y32 :: y33 :: y34 :: y35 :: y36 :: y37 :: y38 :: y39 :: y40 :: y41 :: y42 :: y43 :: y44 :: y45 :: y46 :: y47 :: y48 :: y49 :: y50 :: y51 :: y52 :: y53 :: y54 :: y55 :: y56 :: y57 :: y58 :: y59 :: y60 :: y61 :: y62 :: []), defers := [] } w := by
  have HK := hide hK
  have H31 := hide C31
  have H30 := hide C30
  clear hK C31 C30
  have hlo' : (lo : Int) ≤ (hi : Int) := by omega
  have hhc : (hi : Int) ≤ (cp : Int) := by omega
  have hnz : ¬ cp = lo := by omega
  conv => arg 2; whnf
  refine wp_region_noPanic ?_
  go_region_with (first | (go_at_call 31; refine H31.out.mono ?_; rintro e w1 ⟨v, rfl, hA⟩; have HA := hide hA; clear hA) | (go_at_call 30; refine (H30.out _ _ HA.out).mono ?_; rintro e w2 ⟨rfl, hB⟩; have HB := hide hB; clear hB))
  all_goals (try go_wp2_with fail)
  all_goals exact HK.out _ _ _ _ _ _ _ _ _ _ HB.out

end Go.Proofs.Ybulkaggi.BM

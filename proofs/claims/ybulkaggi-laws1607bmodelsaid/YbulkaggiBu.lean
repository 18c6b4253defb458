import Derived.Test.YbulkaggiBt
namespace Go.Proofs.Ybulkaggi.BM
open Go.RowKit Go.Proofs.Ybulkaggi Go.Sort Go.Shelf Go.Lib
open Go.Proofs.Ybulkaggi.CE (hlt tag_ne own_tag own_keep size_set grown_alloc grown_drewN info_at rgOf step_append sl_shape grown_of_drew)
set_option linter.unusedVariables false
set_option linter.unusedSimpArgs false
set_option maxRecDepth 100000

theorem step_app {ops : Array Oper} {o : Oper} {a : Act} {w : World} {K : Act → World → Prop} {Q : Exit → Act → World → Prop} {E : Prop}
    (hg : o.guard = none) (s x : Operand) (t : TypeId) (hop : o.op = Op.call { callee := Callee.builtin Builtin.append, args := #[s, x], argTypes := #[t, t] })
    {v u v' : Value} {w' : World} (hs : a.eval s = v) (hx : a.eval x = u) (hr : (Builtin.append_ #[t, t] o.type #[v, u]).run Yba.prog w = .ok v' w') (hK : K (a.put o.dst v') w') :
    if Region.wanted o (yielded ops a.tmps) = true then Oper.wp Yba.prog o a w K Q else E := by
  have hw : Region.wanted o (yielded ops a.tmps) = true := by simp [Region.wanted, hg]
  rw [if_pos hw]
  unfold Oper.wp execOp
  simp only [hop, resolve, invoke, builtin, Sem.run_bind, Sem.run_pure, Result.andThen_ok, List.map_toArray, List.map_cons, List.map_nil, hs, hx, hr]
  exact hK
theorem app_nil (w : World) (ty : TypeId) (a : Option Addr) (n c : Nat) (h : n ≤ c) : (Builtin.append_ #[23, 23] ty #[.slice a n c, .slice none 0 0]).run Yba.prog w = .ok (.slice a n c) w := by
  obtain ⟨i0, hi0, hz0, hz1, hz2⟩ := info_at info32
  cases a <;> simp [Builtin.append_, run_underlying Yba.underlying23, sizeOf, typeInfo, hi0, h, storeCells, Builtin.lenOf, Builtin.firstCells]

def S3 (XF XB XA : Nat) (vf vb va : Value) (w : World) : Prop := w.cell? ⟨XF, 0, none⟩ = some vf ∧ w.cell? ⟨XB, 0, none⟩ = some vb ∧ w.cell? ⟨XA, 0, none⟩ = some va

set_option maxHeartbeats 4000000 in
theorem p_r13 {QQ : Exit → Act → World → Prop} {XF XB XA m vc nb cb na ca : Nat} {va ab aa : Option Addr} {A : Value → World → Prop} {B : Value → World → Prop} {w : World} {y0 y1 y2 y3 y4 y8 y9 y10 y11 y12 y13 y14 y15 y16 y17 y18 y19 y20 y21 y22 y23 y24 y25 y26 y27 y28 y29 y30 y31 y32 y33 y34 y35 y36 y37 y38 y39 y40 y41 y42 y43 y44 y45 y46 y47 y48 y49 y50 y51 y52 y53 y54 y55 y56 y57 y58 y59 y60 y61 y62 : Value}
    (h1 : w.cell? ⟨XF, 0, none⟩ = some (.slice va m vc)) (h2 : w.cell? ⟨XB, 0, none⟩ = some (.slice ab nb cb)) (h3 : w.cell? ⟨XA, 0, none⟩ = some (.slice aa na ca))
    (C7 : Calls Yba.prog 7 #[.slice ab nb cb, .slice aa na ca] w.drew (fun e w1 => ∃ (b : Option Addr) (k d : Nat), e = .returned (.slice b k d) ∧ A (.slice b k d) w1)) (KF : ∀ v w1, A v w1 → S3 XF XB XA (.slice va m vc) (.slice ab nb cb) (.slice aa na ca) w1) (AP : ∀ v w1, A v w1 → ∀ ty, ∃ v' w2, (Builtin.append_ #[23, 23] ty #[.slice va m vc, v]).run Yba.prog w1 = .ok v' w2 ∧ B v' w2 ∧ S3 XF XB XA (.slice va m vc) (.slice ab nb cb) (.slice aa na ca) w2)
    (hK : ∀ (t58 t59 t60 t61 t62 : Value) (v' : Value) (wx : World), B v' wx → QQ .normal { tmps := List.toArray (y0 :: y1 :: y2 :: y3 :: (v') :: (Pp XF) :: (Pp XB) :: (Pp XA) :: y8 :: y9 :: y10 :: y11 :: y12 :: y13 :: y14 :: y15 :: y16 :: y17 :: y18 :: y19 :: y20 :: y21 :: y22 :: y23 :: y24 :: y25 :: y26 :: y27 :: y28 :: y29 :: y30 :: y31 :: y32 :: y33 :: y34 :: y35 :: y36 :: y37 :: y38 :: y39 :: y40 :: y41 :: y42 :: y43 :: y44 :: y45 :: y46 :: y47 :: y48 :: y49 :: y50 :: y51 :: y52 :: y53 :: y54 :: y55 :: y56 :: y57 :: (t58) :: (t59) :: (t60) :: (t61) :: (t62) :: []), defers := [] } wx) :
    Code.wp Yba.prog (rgOf Yba.f14.body 13) QQ { tmps := List.toArray (y0 :: y1 :: y2 :: y3 :: y4 :: (Pp XF) :: (Pp XB) :: (Pp XA) :: y8 :: y9 :: y10 :: y11 :: y12 :: y13 :: y14 :: y15 :: y16 :: y17 :: y18 :: y19 :: y20 :: y21 :: y22 :: y23 :: y24 :: y25 :: y26 :: y27 :: y28 :: y29 :: y30 :: y31 :: y32 :: y33 :: y34 :: y35 :: y36 :: y37 :: y38 :: y39 :: y40 :: y41 :: y42 :: y43 :: y44 :: y45 :: y46 :: y47 :: y48 :: y49 :: y50 :: y51 :: y52 :: y53 :: y54 :: y55 :: y56 :: y57 :: y58 :: y59 :: y60 :: y61 :: y62 :: []), defers := [] } w := by
  have HK := hide hK
  have H7 := hide C7
  have HF := hide KF
  have HAP := hide AP
  clear hK C7 KF AP
  conv => arg 2; whnf
  refine wp_region_noPanic ?_
  refine wp_region_held_drew (S := S3 XF XB XA (.slice va m vc) (.slice ab nb cb) (.slice aa na ca)) (by kernel_rfl) ⟨h1, h2, h3⟩ (fun hHeld => ?_)
  refine wpAnyH_take (i := 0) (v := ?_) rfl (by kernel_rfl) (by kernel_rfl) (by kernel_rfl) (fun _ _ _ h => h) (Or.inl ⟨by rfl, ?_⟩) (by assumption) ?_
  rotate_left
  · intro w hSw
    obtain ⟨s1, s2, s3⟩ := hSw
    go_simp
    with_reducible rfl
  try simp only [Act.put, List.setIfInBounds_toArray, List.set_cons_zero, List.set_cons_succ]
  refine wpAnyH_take (i := 1) (v := ?_) rfl (by kernel_rfl) (by kernel_rfl) (by kernel_rfl) (fun _ _ _ h => h) (Or.inl ⟨by rfl, ?_⟩) (by assumption) ?_
  rotate_left
  · intro w hSw
    obtain ⟨s1, s2, s3⟩ := hSw
    go_simp
    with_reducible rfl
  try simp only [Act.put, List.setIfInBounds_toArray, List.set_cons_zero, List.set_cons_succ]
  refine wpAnyH_take (i := 2) (v := ?_) rfl (by kernel_rfl) (by kernel_rfl) (by kernel_rfl) (fun _ _ _ h => h) (Or.inl ⟨by rfl, ?_⟩) (by assumption) ?_
  rotate_left
  · intro w hSw
    obtain ⟨s1, s2, s3⟩ := hSw
    go_simp
    with_reducible rfl
  try simp only [Act.put, List.setIfInBounds_toArray, List.set_cons_zero, List.set_cons_succ]
  refine wpAnyH_ready (rs := [3]) (by kernel_rfl) (by simp) ?_
  refine AllReadyH.cons rfl (fun K1 hK1 => ?_) AllReadyH.nil
  go_simp
  refine H7.out.mono ?_
  rintro e w1 ⟨b, k, d, rfl, hA⟩
  have hS1 := HF.out _ _ hA
  obtain ⟨v', w2, hr, hb, hS2⟩ := HAP.out _ _ hA 23
  have HB := hide hb
  clear hb hA
  dsimp only
  refine hK1.out _ _ hS1 (fun z1 => ?_)
  clear hK1 K1
  try simp only [Act.put, List.setIfInBounds_toArray, List.set_cons_zero, List.set_cons_succ]
  refine wpAnyH_ready (rs := [4]) (by kernel_rfl) (by simp) ?_
  refine AllReadyH.cons rfl (fun K2 hK2 => ?_) AllReadyH.nil
  refine step_app (by rfl) (.tmp 58) (.tmp 61) 23 (by rfl) (by rfl) (by rfl) hr ?_
  refine hK2.out _ _ hS2 (fun z2 => ?_)
  clear hK2 K2 hr
  try simp only [Act.put, List.setIfInBounds_toArray, List.set_cons_zero, List.set_cons_succ]
  refine wpAnyH_ready (rs := [5]) (by kernel_rfl) (by simp) ?_
  refine AllReadyH.cons rfl (fun K3 hK3 => ?_) AllReadyH.nil
  go_simp
  refine hK3.out _ _ hS2 (fun z3 => ?_)
  clear hK3 K3
  try simp only [Act.put, List.setIfInBounds_toArray, List.set_cons_zero, List.set_cons_succ]
  refine wpAnyH_done (by kernel_rfl) ?_ _
  exact HK.out _ _ _ _ _ _ _ HB.out

end Go.Proofs.Ybulkaggi.BM

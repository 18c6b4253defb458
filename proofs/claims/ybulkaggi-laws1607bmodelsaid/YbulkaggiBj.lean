import Derived.Test.YbulkaggiBh
import Derived.Deep.RegionHeld3
namespace Go.Proofs.Ybulkaggi.BM
open Go.RowKit Go.Proofs.Ybulkaggi Go.Sort Go.Shelf Go.Lib
open Go.Proofs.Ybulkaggi.CE (hlt tag_ne own_tag own_keep size_set step_append sl_shape grown_of_drew rgOf)
set_option linter.unusedVariables false
set_option linter.unusedSimpArgs false
set_option maxRecDepth 100000

theorem news4 {w : World} {e : TypeId} {a b c d : Value} (W : World) (hW : W.heap = (w.alloc (.cells #[a, b, c, d] e)).heap) : ∀ j u, [a, b, c, d][j]? = some u → W.cell? ⟨w.heap.size, j, none⟩ = some u := fun j u hj => by
  have h : W.heap[w.heap.size]? = some (.cells #[a, b, c, d] e (0, 0)) := by rw [hW]; exact heap_alloc_new w _
  rw [cell_at h]
  simpa using hj
theorem news3 {w : World} {e : TypeId} {a b c : Value} (W : World) (hW : W.heap = (w.alloc (.cells #[a, b, c] e)).heap) : ∀ j u, [a, b, c][j]? = some u → W.cell? ⟨w.heap.size, j, none⟩ = some u := fun j u hj => by
  have h : W.heap[w.heap.size]? = some (.cells #[a, b, c] e (0, 0)) := by rw [hW]; exact heap_alloc_new w _
  rw [cell_at h]
  simpa using hj
def S5 (A B xt yt XN : Nat) (ta tb : Int) (u : Value) (x : World) : Prop := x.cell? ⟨A, 0, none⟩ = some (Pp xt) ∧ x.cell? ⟨B, 0, none⟩ = some (Pp yt) ∧ x.cell? ⟨xt, 0, none⟩ = some (.int .i64 ta) ∧ x.cell? ⟨yt, 0, none⟩ = some (.int .i64 tb) ∧ x.cell? ⟨XN, 0, none⟩ = some u
theorem s5_keep {A B xt yt XN : Nat} {ta tb : Int} {u : Value} {x x' : World} {n : Nat} (h : S5 A B xt yt XN ta tb u x) (hl : ∀ k, (k = A ∨ k = B ∨ k = xt ∨ k = yt ∨ k = XN) → k < n) (e : ∀ k, (k = A ∨ k = B ∨ k = xt ∨ k = yt ∨ k = XN) → x'.heap[k]? = x.heap[k]?) : S5 A B xt yt XN ta tb u x' :=
  ⟨(World.cell?_of_block (a := ⟨A, 0, none⟩) (e A (.inl rfl))).trans h.1, (World.cell?_of_block (a := ⟨B, 0, none⟩) (e B (.inr (.inl rfl)))).trans h.2.1, (World.cell?_of_block (a := ⟨xt, 0, none⟩) (e xt (.inr (.inr (.inl rfl))))).trans h.2.2.1, (World.cell?_of_block (a := ⟨yt, 0, none⟩) (e yt (.inr (.inr (.inr (.inl rfl)))))).trans h.2.2.2.1, (World.cell?_of_block (a := ⟨XN, 0, none⟩) (e XN (.inr (.inr (.inr (.inr rfl)))))).trans h.2.2.2.2⟩

set_option maxHeartbeats 1000000 in
theorem vreg3 {K : Act → World → Prop} {Q : Exit → Act → World → Prop} {N XF XN A B xt yt gi m : Nat} {ta tb : Int} {s : ByteArray} {sva : Option Addr} {svc : Nat} {XS : List Value} {w : World} {y0 y1 y2 y5 y6 y7 y10 y11 y12 y13 y14 y15 y16 y17 y18 y19 y20 y21 y22 y23 y24 y25 y26 y27 y28 y29 y30 y31 y32 y33 y34 y35 y36 y37 y38 y39 y40 y41 y42 y43 y44 y45 y46 y47 y48 y49 y50 y51 y52 y53 y54 y55 y56 y57 y58 y59 y60 y61 y62 y63 y64 y65 y66 y67 y68 y69 y70 y71 y72 y73 y74 y75 y76 y77 y78 y79 y80 y81 y82 y83 y84 y85 y86 y87 y88 y89 y90 y91 y92 y93 y94 y95 y96 y97 y98 y99 y100 y101 y102 : Value}
    (cf : w.cell? ⟨XF, 0, none⟩ = some (.slice sva m svc)) (zf : w.frozen? ⟨XF, 0, none⟩ = false) (lf : XF < w.heap.size) (ca : w.cell? ⟨A, 0, none⟩ = some (Pp xt)) (cb : w.cell? ⟨B, 0, none⟩ = some (Pp yt)) (cx : w.cell? ⟨xt, 0, none⟩ = some (.int .i64 ta)) (cy : w.cell? ⟨yt, 0, none⟩ = some (.int .i64 tb)) (cn : w.cell? ⟨XN, 0, none⟩ = some (.slice (some ⟨gi, 0, none⟩) 1 1))
    (hN : ∀ k, (Value.slice sva m svc).ownBlock = some k → k ≠ XF ∧ ¬ (k = A ∨ k = B ∨ k = xt ∨ k = yt ∨ k = XN)) (hL : ∀ k, (k = A ∨ k = B ∨ k = xt ∨ k = yt ∨ k = XN) → k < w.heap.size) (hX : ¬ (XF = A ∨ XF = B ∨ XF = xt ∨ XF = yt ∨ XF = XN)) (ow : w.ownsRow N 32 4 (.slice sva m svc) m XS) (hm : m ≤ 2000) (hb : N ≤ w.heap.size)
    (hK : ∀ (t37 t38 t39 t40 t41 t42 t43 t44 t45 t46 t47 t48 t49 t50 t51 : Value) (v' : Value) (w3 wx : World) (o : Obj), w3.ownsRow N 32 4 v' (m + 1) (XS ++ [.string { data := #[108, 111, 115, 116, 45, 117, 112, 100, 97, 116, 101] }, .int .i64 ta, .int .i64 tb, .slice (some ⟨gi, 0, none⟩) 1 1]) → (w.alloc o).grownBy w3 (Value.slice sva m svc).ownBlock → (v'.ownBlock = (Value.slice sva m svc).ownBlock ∨ v'.ownBlock = some (w.alloc o).heap.size) → wx.heap = (w3.setCell ⟨XF, 0, none⟩ v').heap → wx.os = w3.os → wx.tape = w3.tape → wx.output = w3.output → K { tmps := List.toArray (y0 :: y1 :: y2 :: (Pp XF) :: (Pp XN) :: y5 :: y6 :: y7 :: (Pp A) :: (Pp B) :: y10 :: y11 :: y12 :: y13 :: y14 :: y15 :: y16 :: y17 :: y18 :: y19 :: y20 :: y21 :: y22 :: y23 :: y24 :: y25 :: y26 :: y27 :: y28 :: y29 :: y30 :: y31 :: y32 :: y33 :: y34 :: y35 :: y36 :: t37 :: t38 :: t39 :: t40 :: t41 :: t42 :: t43 :: t44 :: t45 :: t46 :: t47 :: t48 :: t49 :: t50 :: t51 :: y52 :: y53 :: y54 :: y55 :: y56 :: y57 :: y58 :: y59 :: y60 :: y61 :: y62 :: y63 :: y64 :: y65 :: y66 :: y67 :: y68 :: y69 :: y70 :: y71 :: y72 :: y73 :: y74 :: y75 :: y76 :: y77 :: y78 :: y79 :: y80 :: y81 :: y82 :: y83 :: y84 :: y85 :: y86 :: y87 :: y88 :: y89 :: y90 :: y91 :: y92 :: y93 :: y94 :: y95 :: y96 :: y97 :: y98 :: y99 :: y100 :: y101 :: y102 :: []), defers := [] } wx) :
    Code.wp Yba.prog (rgOf Yba.f32.body 3) (Exit.then K Q) { tmps := List.toArray (y0 :: y1 :: y2 :: (Pp XF) :: (Pp XN) :: y5 :: y6 :: y7 :: (Pp A) :: (Pp B) :: y10 :: y11 :: y12 :: y13 :: y14 :: y15 :: y16 :: y17 :: y18 :: y19 :: y20 :: y21 :: y22 :: y23 :: y24 :: y25 :: y26 :: y27 :: y28 :: y29 :: y30 :: y31 :: y32 :: y33 :: y34 :: y35 :: y36 :: y37 :: y38 :: y39 :: y40 :: y41 :: y42 :: y43 :: y44 :: y45 :: y46 :: y47 :: y48 :: y49 :: y50 :: y51 :: y52 :: y53 :: y54 :: y55 :: y56 :: y57 :: y58 :: y59 :: y60 :: y61 :: y62 :: y63 :: y64 :: y65 :: y66 :: y67 :: y68 :: y69 :: y70 :: y71 :: y72 :: y73 :: y74 :: y75 :: y76 :: y77 :: y78 :: y79 :: y80 :: y81 :: y82 :: y83 :: y84 :: y85 :: y86 :: y87 :: y88 :: y89 :: y90 :: y91 :: y92 :: y93 :: y94 :: y95 :: y96 :: y97 :: y98 :: y99 :: y100 :: y101 :: y102 :: []), defers := [] } w := by
  have HK := hide hK
  have HN := hide hN
  have OW := hide ow
  clear hK hN ow
  conv => arg 2; whnf
  refine wp_region_noPanic ?_
  refine wp_region_held_drew (S := (S5 A B xt yt XN ta tb (.slice (some ⟨gi, 0, none⟩) 1 1))) (by kernel_rfl) ⟨ca, cb, cx, cy, cn⟩ (fun hHeld => ?_)
  refine wpAnyH_take (i := 1) (v := ?_) rfl (by kernel_rfl) (by kernel_rfl) (by kernel_rfl) (fun _ _ _ h => h) (Or.inl ⟨by rfl, ?_⟩) (by assumption) ?_
  rotate_left
  · intro w hSw
    obtain ⟨s1, s2, s3, s4, s5⟩ := hSw
    go_simp
    with_reducible rfl
  try simp only [Act.put, List.setIfInBounds_toArray, List.set_cons_zero, List.set_cons_succ]
  refine wpAnyH_take (i := 2) (v := ?_) rfl (by kernel_rfl) (by kernel_rfl) (by kernel_rfl) (fun _ _ _ h => h) (Or.inl ⟨by rfl, ?_⟩) (by assumption) ?_
  rotate_left
  · intro w hSw
    obtain ⟨s1, s2, s3, s4, s5⟩ := hSw
    go_simp
    with_reducible rfl
  try simp only [Act.put, List.setIfInBounds_toArray, List.set_cons_zero, List.set_cons_succ]
  refine wpAnyH_take (i := 3) (v := ?_) rfl (by kernel_rfl) (by kernel_rfl) (by kernel_rfl) (fun _ _ _ h => h) (Or.inl ⟨by rfl, ?_⟩) (by assumption) ?_
  rotate_left
  · intro w hSw
    obtain ⟨s1, s2, s3, s4, s5⟩ := hSw
    go_simp
    with_reducible rfl
  try simp only [Act.put, List.setIfInBounds_toArray, List.set_cons_zero, List.set_cons_succ]
  refine wpAnyH_take (i := 4) (v := ?_) rfl (by kernel_rfl) (by kernel_rfl) (by kernel_rfl) (fun _ _ _ h => h) (Or.inl ⟨by rfl, ?_⟩) (by assumption) ?_
  rotate_left
  · intro w hSw
    obtain ⟨s1, s2, s3, s4, s5⟩ := hSw
    go_simp
    with_reducible rfl
  try simp only [Act.put, List.setIfInBounds_toArray, List.set_cons_zero, List.set_cons_succ]
  refine wpAnyH_take (i := 5) (v := ?_) rfl (by kernel_rfl) (by kernel_rfl) (by kernel_rfl) (fun _ _ _ h => h) (Or.inl ⟨by rfl, ?_⟩) (by assumption) ?_
  rotate_left
  · intro w hSw
    obtain ⟨s1, s2, s3, s4, s5⟩ := hSw
    go_simp
    with_reducible rfl
  try simp only [Act.put, List.setIfInBounds_toArray, List.set_cons_zero, List.set_cons_succ]
  refine wpAnyH_take (i := 6) (v := ?_) rfl (by kernel_rfl) (by kernel_rfl) (by kernel_rfl) (fun _ _ _ h => h) (Or.inl ⟨by rfl, ?_⟩) (by assumption) ?_
  rotate_left
  · intro w hSw
    obtain ⟨s1, s2, s3, s4, s5⟩ := hSw
    go_simp
    with_reducible rfl
  try simp only [Act.put, List.setIfInBounds_toArray, List.set_cons_zero, List.set_cons_succ]
  refine wpAnyH_take (i := 7) (v := ?_) rfl (by kernel_rfl) (by kernel_rfl) (by kernel_rfl) (fun _ _ _ h => h) (Or.inl ⟨by rfl, ?_⟩) (by assumption) ?_
  rotate_left
  · intro w hSw
    obtain ⟨s1, s2, s3, s4, s5⟩ := hSw
    go_simp
    with_reducible rfl
  try simp only [Act.put, List.setIfInBounds_toArray, List.set_cons_zero, List.set_cons_succ]
  refine wpAnyH_take (i := 8) (v := ?_) rfl (by kernel_rfl) (by kernel_rfl) (by kernel_rfl) (fun _ _ _ h => h) (Or.inl ⟨by rfl, ?_⟩) (by assumption) ?_
  rotate_left
  · intro w hSw
    obtain ⟨s1, s2, s3, s4, s5⟩ := hSw
    go_simp
    with_reducible rfl
  try simp only [Act.put, List.setIfInBounds_toArray, List.set_cons_zero, List.set_cons_succ]
  refine wpAnyH_take (i := 9) (v := ?_) rfl (by kernel_rfl) (by kernel_rfl) (by kernel_rfl) (fun _ _ _ h => h) (Or.inl ⟨by rfl, ?_⟩) (by assumption) ?_
  rotate_left
  · intro w hSw
    obtain ⟨s1, s2, s3, s4, s5⟩ := hSw
    go_simp
    with_reducible rfl
  try simp only [Act.put, List.setIfInBounds_toArray, List.set_cons_zero, List.set_cons_succ]
  refine wpAnyH_take (i := 10) (v := ?_) rfl (by kernel_rfl) (by kernel_rfl) (by kernel_rfl) (fun _ _ _ h => h) (Or.inl ⟨by rfl, ?_⟩) (by assumption) ?_
  rotate_left
  · intro w hSw
    obtain ⟨s1, s2, s3, s4, s5⟩ := hSw
    go_simp
    with_reducible rfl
  try simp only [Act.put, List.setIfInBounds_toArray, List.set_cons_zero, List.set_cons_succ]
  refine wpAnyH_take (i := 11) (v := ?_) rfl (by kernel_rfl) (by kernel_rfl) (by kernel_rfl) (fun _ _ _ h => h) (Or.inl ⟨by rfl, ?_⟩) (by assumption) ?_
  rotate_left
  · intro w hSw
    obtain ⟨s1, s2, s3, s4, s5⟩ := hSw
    go_simp
    with_reducible rfl
  try simp only [Act.put, List.setIfInBounds_toArray, List.set_cons_zero, List.set_cons_succ]
  refine wpAnyH_take (i := 12) (v := ?_) rfl (by kernel_rfl) (by kernel_rfl) (by kernel_rfl) (fun _ _ _ h => h) (Or.inl ⟨by rfl, ?_⟩) (by assumption) ?_
  rotate_left
  · intro w hSw
    obtain ⟨s1, s2, s3, s4, s5⟩ := hSw
    go_simp
    with_reducible rfl
  try simp only [Act.put, List.setIfInBounds_toArray, List.set_cons_zero, List.set_cons_succ]
  refine wpAnyH_ready (rs := [0, 13]) (by kernel_rfl) (by simp) ?_
  refine AllReadyH.cons rfl (fun K1 hK1 => ?_) ?_
  · go_simp
    refine hK1.out _ _ hHeld (fun h1 => ?_)
    clear hK1 K1
    try simp only [Act.put, List.setIfInBounds_toArray, List.set_cons_zero, List.set_cons_succ]
    refine wpAnyH_ready (rs := [13]) (by kernel_rfl) (by simp) ?_
    refine AllReadyH.cons rfl (fun K2 hK2 => ?_) AllReadyH.nil
    go_simp
    refine hK2.out _ _ (s5_keep hHeld hL (fun k hk => Below.heap_alloc _ _ _ (hL k hk))) (fun h2 => ?_)
    clear hK2 K2
    try simp only [Act.put, List.setIfInBounds_toArray, List.set_cons_zero, List.set_cons_succ]
    refine wpAnyH_ready (rs := [14]) (by kernel_rfl) (by simp) ?_
    refine AllReadyH.cons rfl (fun K3 hK3 => ?_) AllReadyH.nil
    refine step_append (base := N) (n := m) (v := .slice sva m svc) (by rfl) (.tmp 37) (.tmp 50) 23 (by rfl) 32 _ 4 56 Yba.underlying23 info32 rfl (by decide) (by decide) (by rfl) (by rfl) [.string { data := #[108, 111, 115, 116, 45, 117, 112, 100, 97, 116, 101] }, .int .i64 ta, .int .i64 tb, .slice (some ⟨gi, 0, none⟩) 1 1] rfl (by exact news4 _ rfl) (by simp [Value.oneCell']) (by exact OW.out.alloc _) (by omega) (by exact Nat.le_trans hb (by simp)) ?_
    intro v' w3 ho3 hg3 hl3
    obtain ⟨va', vc', hv3⟩ := sl_shape ho3
    subst hv3
    have hg3' := grown_of_drew hg3
    have hbk := (hg3'.block XF (by simp; omega) (fun e => (HN.out _ e.symm).1 rfl)).trans (Below.heap_alloc _ _ _ lf)
    have b9' := (World.cell?_of_block (w := w) (a := ⟨XF, 0, none⟩) hbk).trans cf
    have z9' := (World.frozen?_of_block (w := w) (a := ⟨XF, 0, none⟩) hbk).trans zf
    have h4 : S5 A B xt yt XN ta tb (.slice (some ⟨gi, 0, none⟩) 1 1) w3 := s5_keep hHeld hL (fun k hk => (hg3'.block k (by have := hL k hk; simp; omega) (fun e => (HN.out k e.symm).2 hk)).trans (Below.heap_alloc _ _ _ (hL k hk)))
    have HO3 := hide ho3
    have HG3 := hide hg3'
    have HL3 := hide hl3
    clear ho3 hg3 hg3' hbk hl3
    refine hK3.out _ _ h4 (fun h5 => ?_)
    clear hK3 K3
    try simp only [Act.put, List.setIfInBounds_toArray, List.set_cons_zero, List.set_cons_succ]
    refine wpAnyH_ready (rs := [15]) (by kernel_rfl) (by simp) ?_
    refine AllReadyH.cons rfl (fun K4 hK4 => ?_) AllReadyH.nil
    go_simp
    refine hK4.out _ _ (s5_keep h4 (fun k hk => Nat.lt_of_lt_of_le (hL k hk) (Nat.le_trans (by simp) HG3.out.size)) (fun k hk => Below.heap_setCell w3 ⟨XF, 0, none⟩ _ k (fun e => hX ((show k = XF from e) ▸ hk)))) (fun h6 => ?_)
    clear hK4 K4
    try simp only [Act.put, List.setIfInBounds_toArray, List.set_cons_zero, List.set_cons_succ]
    refine wpAnyH_done (by kernel_rfl) ?_ _
    exact HK.out _ _ _ _ _ _ _ _ _ _ _ _ _ _ _ _ w3 _ _ HO3.out HG3.out HL3.out rfl rfl rfl rfl
  · refine AllReadyH.cons rfl (fun K1 hK1 => ?_) AllReadyH.nil
    go_simp
    refine hK1.out _ _ (s5_keep hHeld hL (fun k hk => Below.heap_alloc _ _ _ (hL k hk))) (fun h1 => ?_)
    clear hK1 K1
    try simp only [Act.put, List.setIfInBounds_toArray, List.set_cons_zero, List.set_cons_succ]
    refine wpAnyH_ready (rs := [0]) (by kernel_rfl) (by simp) ?_
    refine AllReadyH.cons rfl (fun K2 hK2 => ?_) AllReadyH.nil
    go_simp
    refine hK2.out _ _ h1 (fun h2 => ?_)
    clear hK2 K2
    try simp only [Act.put, List.setIfInBounds_toArray, List.set_cons_zero, List.set_cons_succ]
    refine wpAnyH_ready (rs := [14]) (by kernel_rfl) (by simp) ?_
    refine AllReadyH.cons rfl (fun K3 hK3 => ?_) AllReadyH.nil
    refine step_append (base := N) (n := m) (v := .slice sva m svc) (by rfl) (.tmp 37) (.tmp 50) 23 (by rfl) 32 _ 4 56 Yba.underlying23 info32 rfl (by decide) (by decide) (by rfl) (by rfl) [.string { data := #[108, 111, 115, 116, 45, 117, 112, 100, 97, 116, 101] }, .int .i64 ta, .int .i64 tb, .slice (some ⟨gi, 0, none⟩) 1 1] rfl (by exact news4 _ rfl) (by simp [Value.oneCell']) (by exact OW.out.alloc _) (by omega) (by exact Nat.le_trans hb (by simp)) ?_
    intro v' w3 ho3 hg3 hl3
    obtain ⟨va', vc', hv3⟩ := sl_shape ho3
    subst hv3
    have hg3' := grown_of_drew hg3
    have hbk := (hg3'.block XF (by simp; omega) (fun e => (HN.out _ e.symm).1 rfl)).trans (Below.heap_alloc _ _ _ lf)
    have b9' := (World.cell?_of_block (w := w) (a := ⟨XF, 0, none⟩) hbk).trans cf
    have z9' := (World.frozen?_of_block (w := w) (a := ⟨XF, 0, none⟩) hbk).trans zf
    have h4 : S5 A B xt yt XN ta tb (.slice (some ⟨gi, 0, none⟩) 1 1) w3 := s5_keep hHeld hL (fun k hk => (hg3'.block k (by have := hL k hk; simp; omega) (fun e => (HN.out k e.symm).2 hk)).trans (Below.heap_alloc _ _ _ (hL k hk)))
    have HO3 := hide ho3
    have HG3 := hide hg3'
    have HL3 := hide hl3
    clear ho3 hg3 hg3' hbk hl3
    refine hK3.out _ _ h4 (fun h5 => ?_)
    clear hK3 K3
    try simp only [Act.put, List.setIfInBounds_toArray, List.set_cons_zero, List.set_cons_succ]
    refine wpAnyH_ready (rs := [15]) (by kernel_rfl) (by simp) ?_
    refine AllReadyH.cons rfl (fun K4 hK4 => ?_) AllReadyH.nil
    go_simp
    refine hK4.out _ _ (s5_keep h4 (fun k hk => Nat.lt_of_lt_of_le (hL k hk) (Nat.le_trans (by simp) HG3.out.size)) (fun k hk => Below.heap_setCell w3 ⟨XF, 0, none⟩ _ k (fun e => hX ((show k = XF from e) ▸ hk)))) (fun h6 => ?_)
    clear hK4 K4
    try simp only [Act.put, List.setIfInBounds_toArray, List.set_cons_zero, List.set_cons_succ]
    refine wpAnyH_done (by kernel_rfl) ?_ _
    exact HK.out _ _ _ _ _ _ _ _ _ _ _ _ _ _ _ _ w3 _ _ HO3.out HG3.out HL3.out rfl rfl rfl rfl

set_option maxHeartbeats 1000000 in
theorem vreg5 {K : Act → World → Prop} {Q : Exit → Act → World → Prop} {N XF XN A B xt yt gi m : Nat} {ta tb : Int} {s : ByteArray} {sva : Option Addr} {svc : Nat} {XS : List Value} {w : World} {y0 y1 y2 y5 y6 y7 y10 y11 y12 y13 y14 y15 y16 y17 y18 y19 y20 y21 y22 y23 y24 y25 y26 y27 y28 y29 y30 y31 y32 y33 y34 y35 y36 y37 y38 y39 y40 y41 y42 y43 y44 y45 y46 y47 y48 y49 y50 y51 y52 y53 y54 y55 y56 y57 y58 y59 y60 y61 y62 y63 y64 y65 y66 y67 y68 y69 y70 y71 y72 y73 y74 y75 y76 y77 y78 y79 y80 y81 y82 y83 y84 y85 y86 y87 y88 y89 y90 y91 y92 y93 y94 y95 y96 y97 y98 y99 y100 y101 y102 : Value}
    (cf : w.cell? ⟨XF, 0, none⟩ = some (.slice sva m svc)) (zf : w.frozen? ⟨XF, 0, none⟩ = false) (lf : XF < w.heap.size) (ca : w.cell? ⟨A, 0, none⟩ = some (Pp xt)) (cb : w.cell? ⟨B, 0, none⟩ = some (Pp yt)) (cx : w.cell? ⟨xt, 0, none⟩ = some (.int .i64 ta)) (cy : w.cell? ⟨yt, 0, none⟩ = some (.int .i64 tb)) (cn : w.cell? ⟨XN, 0, none⟩ = some (.slice (some ⟨gi, 0, none⟩) 1 1))
    (hN : ∀ k, (Value.slice sva m svc).ownBlock = some k → k ≠ XF ∧ ¬ (k = A ∨ k = B ∨ k = xt ∨ k = yt ∨ k = XN)) (hL : ∀ k, (k = A ∨ k = B ∨ k = xt ∨ k = yt ∨ k = XN) → k < w.heap.size) (hX : ¬ (XF = A ∨ XF = B ∨ XF = xt ∨ XF = yt ∨ XF = XN)) (ow : w.ownsRow N 32 4 (.slice sva m svc) m XS) (hm : m ≤ 2000) (hb : N ≤ w.heap.size)
    (hK : ∀ (t54 t55 t56 t57 t58 t59 t60 t61 t62 t63 t64 t65 t66 t67 t68 : Value) (v' : Value) (w3 wx : World) (o : Obj), w3.ownsRow N 32 4 v' (m + 1) (XS ++ [.string { data := #[110, 111, 110, 114, 101, 112, 101, 97, 116, 97, 98, 108, 101, 45, 114, 101, 97, 100] }, .int .i64 ta, .int .i64 tb, .slice (some ⟨gi, 0, none⟩) 1 1]) → (w.alloc o).grownBy w3 (Value.slice sva m svc).ownBlock → (v'.ownBlock = (Value.slice sva m svc).ownBlock ∨ v'.ownBlock = some (w.alloc o).heap.size) → wx.heap = (w3.setCell ⟨XF, 0, none⟩ v').heap → wx.os = w3.os → wx.tape = w3.tape → wx.output = w3.output → K { tmps := List.toArray (y0 :: y1 :: y2 :: (Pp XF) :: (Pp XN) :: y5 :: y6 :: y7 :: (Pp A) :: (Pp B) :: y10 :: y11 :: y12 :: y13 :: y14 :: y15 :: y16 :: y17 :: y18 :: y19 :: y20 :: y21 :: y22 :: y23 :: y24 :: y25 :: y26 :: y27 :: y28 :: y29 :: y30 :: y31 :: y32 :: y33 :: y34 :: y35 :: y36 :: y37 :: y38 :: y39 :: y40 :: y41 :: y42 :: y43 :: y44 :: y45 :: y46 :: y47 :: y48 :: y49 :: y50 :: y51 :: y52 :: y53 :: t54 :: t55 :: t56 :: t57 :: t58 :: t59 :: t60 :: t61 :: t62 :: t63 :: t64 :: t65 :: t66 :: t67 :: t68 :: y69 :: y70 :: y71 :: y72 :: y73 :: y74 :: y75 :: y76 :: y77 :: y78 :: y79 :: y80 :: y81 :: y82 :: y83 :: y84 :: y85 :: y86 :: y87 :: y88 :: y89 :: y90 :: y91 :: y92 :: y93 :: y94 :: y95 :: y96 :: y97 :: y98 :: y99 :: y100 :: y101 :: y102 :: []), defers := [] } wx) :
    Code.wp Yba.prog (rgOf Yba.f32.body 5) (Exit.then K Q) { tmps := List.toArray (y0 :: y1 :: y2 :: (Pp XF) :: (Pp XN) :: y5 :: y6 :: y7 :: (Pp A) :: (Pp B) :: y10 :: y11 :: y12 :: y13 :: y14 :: y15 :: y16 :: y17 :: y18 :: y19 :: y20 :: y21 :: y22 :: y23 :: y24 :: y25 :: y26 :: y27 :: y28 :: y29 :: y30 :: y31 :: y32 :: y33 :: y34 :: y35 :: y36 :: y37 :: y38 :: y39 :: y40 :: y41 :: y42 :: y43 :: y44 :: y45 :: y46 :: y47 :: y48 :: y49 :: y50 :: y51 :: y52 :: y53 :: y54 :: y55 :: y56 :: y57 :: y58 :: y59 :: y60 :: y61 :: y62 :: y63 :: y64 :: y65 :: y66 :: y67 :: y68 :: y69 :: y70 :: y71 :: y72 :: y73 :: y74 :: y75 :: y76 :: y77 :: y78 :: y79 :: y80 :: y81 :: y82 :: y83 :: y84 :: y85 :: y86 :: y87 :: y88 :: y89 :: y90 :: y91 :: y92 :: y93 :: y94 :: y95 :: y96 :: y97 :: y98 :: y99 :: y100 :: y101 :: y102 :: []), defers := [] } w := by
  have HK := hide hK
  have HN := hide hN
  have OW := hide ow
  clear hK hN ow
  conv => arg 2; whnf
  refine wp_region_noPanic ?_
  refine wp_region_held_drew (S := (S5 A B xt yt XN ta tb (.slice (some ⟨gi, 0, none⟩) 1 1))) (by kernel_rfl) ⟨ca, cb, cx, cy, cn⟩ (fun hHeld => ?_)
  refine wpAnyH_take (i := 1) (v := ?_) rfl (by kernel_rfl) (by kernel_rfl) (by kernel_rfl) (fun _ _ _ h => h) (Or.inl ⟨by rfl, ?_⟩) (by assumption) ?_
  rotate_left
  · intro w hSw
    obtain ⟨s1, s2, s3, s4, s5⟩ := hSw
    go_simp
    with_reducible rfl
  try simp only [Act.put, List.setIfInBounds_toArray, List.set_cons_zero, List.set_cons_succ]
  refine wpAnyH_take (i := 2) (v := ?_) rfl (by kernel_rfl) (by kernel_rfl) (by kernel_rfl) (fun _ _ _ h => h) (Or.inl ⟨by rfl, ?_⟩) (by assumption) ?_
  rotate_left
  · intro w hSw
    obtain ⟨s1, s2, s3, s4, s5⟩ := hSw
    go_simp
    with_reducible rfl
  try simp only [Act.put, List.setIfInBounds_toArray, List.set_cons_zero, List.set_cons_succ]
  refine wpAnyH_take (i := 3) (v := ?_) rfl (by kernel_rfl) (by kernel_rfl) (by kernel_rfl) (fun _ _ _ h => h) (Or.inl ⟨by rfl, ?_⟩) (by assumption) ?_
  rotate_left
  · intro w hSw
    obtain ⟨s1, s2, s3, s4, s5⟩ := hSw
    go_simp
    with_reducible rfl
  try simp only [Act.put, List.setIfInBounds_toArray, List.set_cons_zero, List.set_cons_succ]
  refine wpAnyH_take (i := 4) (v := ?_) rfl (by kernel_rfl) (by kernel_rfl) (by kernel_rfl) (fun _ _ _ h => h) (Or.inl ⟨by rfl, ?_⟩) (by assumption) ?_
  rotate_left
  · intro w hSw
    obtain ⟨s1, s2, s3, s4, s5⟩ := hSw
    go_simp
    with_reducible rfl
  try simp only [Act.put, List.setIfInBounds_toArray, List.set_cons_zero, List.set_cons_succ]
  refine wpAnyH_take (i := 5) (v := ?_) rfl (by kernel_rfl) (by kernel_rfl) (by kernel_rfl) (fun _ _ _ h => h) (Or.inl ⟨by rfl, ?_⟩) (by assumption) ?_
  rotate_left
  · intro w hSw
    obtain ⟨s1, s2, s3, s4, s5⟩ := hSw
    go_simp
    with_reducible rfl
  try simp only [Act.put, List.setIfInBounds_toArray, List.set_cons_zero, List.set_cons_succ]
  refine wpAnyH_take (i := 6) (v := ?_) rfl (by kernel_rfl) (by kernel_rfl) (by kernel_rfl) (fun _ _ _ h => h) (Or.inl ⟨by rfl, ?_⟩) (by assumption) ?_
  rotate_left
  · intro w hSw
    obtain ⟨s1, s2, s3, s4, s5⟩ := hSw
    go_simp
    with_reducible rfl
  try simp only [Act.put, List.setIfInBounds_toArray, List.set_cons_zero, List.set_cons_succ]
  refine wpAnyH_take (i := 7) (v := ?_) rfl (by kernel_rfl) (by kernel_rfl) (by kernel_rfl) (fun _ _ _ h => h) (Or.inl ⟨by rfl, ?_⟩) (by assumption) ?_
  rotate_left
  · intro w hSw
    obtain ⟨s1, s2, s3, s4, s5⟩ := hSw
    go_simp
    with_reducible rfl
  try simp only [Act.put, List.setIfInBounds_toArray, List.set_cons_zero, List.set_cons_succ]
  refine wpAnyH_take (i := 8) (v := ?_) rfl (by kernel_rfl) (by kernel_rfl) (by kernel_rfl) (fun _ _ _ h => h) (Or.inl ⟨by rfl, ?_⟩) (by assumption) ?_
  rotate_left
  · intro w hSw
    obtain ⟨s1, s2, s3, s4, s5⟩ := hSw
    go_simp
    with_reducible rfl
  try simp only [Act.put, List.setIfInBounds_toArray, List.set_cons_zero, List.set_cons_succ]
  refine wpAnyH_take (i := 9) (v := ?_) rfl (by kernel_rfl) (by kernel_rfl) (by kernel_rfl) (fun _ _ _ h => h) (Or.inl ⟨by rfl, ?_⟩) (by assumption) ?_
  rotate_left
  · intro w hSw
    obtain ⟨s1, s2, s3, s4, s5⟩ := hSw
    go_simp
    with_reducible rfl
  try simp only [Act.put, List.setIfInBounds_toArray, List.set_cons_zero, List.set_cons_succ]
  refine wpAnyH_take (i := 10) (v := ?_) rfl (by kernel_rfl) (by kernel_rfl) (by kernel_rfl) (fun _ _ _ h => h) (Or.inl ⟨by rfl, ?_⟩) (by assumption) ?_
  rotate_left
  · intro w hSw
    obtain ⟨s1, s2, s3, s4, s5⟩ := hSw
    go_simp
    with_reducible rfl
  try simp only [Act.put, List.setIfInBounds_toArray, List.set_cons_zero, List.set_cons_succ]
  refine wpAnyH_take (i := 11) (v := ?_) rfl (by kernel_rfl) (by kernel_rfl) (by kernel_rfl) (fun _ _ _ h => h) (Or.inl ⟨by rfl, ?_⟩) (by assumption) ?_
  rotate_left
  · intro w hSw
    obtain ⟨s1, s2, s3, s4, s5⟩ := hSw
    go_simp
    with_reducible rfl
  try simp only [Act.put, List.setIfInBounds_toArray, List.set_cons_zero, List.set_cons_succ]
  refine wpAnyH_take (i := 12) (v := ?_) rfl (by kernel_rfl) (by kernel_rfl) (by kernel_rfl) (fun _ _ _ h => h) (Or.inl ⟨by rfl, ?_⟩) (by assumption) ?_
  rotate_left
  · intro w hSw
    obtain ⟨s1, s2, s3, s4, s5⟩ := hSw
    go_simp
    with_reducible rfl
  try simp only [Act.put, List.setIfInBounds_toArray, List.set_cons_zero, List.set_cons_succ]
  refine wpAnyH_ready (rs := [0, 13]) (by kernel_rfl) (by simp) ?_
  refine AllReadyH.cons rfl (fun K1 hK1 => ?_) ?_
  · go_simp
    refine hK1.out _ _ hHeld (fun h1 => ?_)
    clear hK1 K1
    try simp only [Act.put, List.setIfInBounds_toArray, List.set_cons_zero, List.set_cons_succ]
    refine wpAnyH_ready (rs := [13]) (by kernel_rfl) (by simp) ?_
    refine AllReadyH.cons rfl (fun K2 hK2 => ?_) AllReadyH.nil
    go_simp
    refine hK2.out _ _ (s5_keep hHeld hL (fun k hk => Below.heap_alloc _ _ _ (hL k hk))) (fun h2 => ?_)
    clear hK2 K2
    try simp only [Act.put, List.setIfInBounds_toArray, List.set_cons_zero, List.set_cons_succ]
    refine wpAnyH_ready (rs := [14]) (by kernel_rfl) (by simp) ?_
    refine AllReadyH.cons rfl (fun K3 hK3 => ?_) AllReadyH.nil
    refine step_append (base := N) (n := m) (v := .slice sva m svc) (by rfl) (.tmp 54) (.tmp 67) 23 (by rfl) 32 _ 4 56 Yba.underlying23 info32 rfl (by decide) (by decide) (by rfl) (by rfl) [.string { data := #[110, 111, 110, 114, 101, 112, 101, 97, 116, 97, 98, 108, 101, 45, 114, 101, 97, 100] }, .int .i64 ta, .int .i64 tb, .slice (some ⟨gi, 0, none⟩) 1 1] rfl (by exact news4 _ rfl) (by simp [Value.oneCell']) (by exact OW.out.alloc _) (by omega) (by exact Nat.le_trans hb (by simp)) ?_
    intro v' w3 ho3 hg3 hl3
    obtain ⟨va', vc', hv3⟩ := sl_shape ho3
    subst hv3
    have hg3' := grown_of_drew hg3
    have hbk := (hg3'.block XF (by simp; omega) (fun e => (HN.out _ e.symm).1 rfl)).trans (Below.heap_alloc _ _ _ lf)
    have b9' := (World.cell?_of_block (w := w) (a := ⟨XF, 0, none⟩) hbk).trans cf
    have z9' := (World.frozen?_of_block (w := w) (a := ⟨XF, 0, none⟩) hbk).trans zf
    have h4 : S5 A B xt yt XN ta tb (.slice (some ⟨gi, 0, none⟩) 1 1) w3 := s5_keep hHeld hL (fun k hk => (hg3'.block k (by have := hL k hk; simp; omega) (fun e => (HN.out k e.symm).2 hk)).trans (Below.heap_alloc _ _ _ (hL k hk)))
    have HO3 := hide ho3
    have HG3 := hide hg3'
    have HL3 := hide hl3
    clear ho3 hg3 hg3' hbk hl3
    refine hK3.out _ _ h4 (fun h5 => ?_)
    clear hK3 K3
    try simp only [Act.put, List.setIfInBounds_toArray, List.set_cons_zero, List.set_cons_succ]
    refine wpAnyH_ready (rs := [15]) (by kernel_rfl) (by simp) ?_
    refine AllReadyH.cons rfl (fun K4 hK4 => ?_) AllReadyH.nil
    go_simp
    refine hK4.out _ _ (s5_keep h4 (fun k hk => Nat.lt_of_lt_of_le (hL k hk) (Nat.le_trans (by simp) HG3.out.size)) (fun k hk => Below.heap_setCell w3 ⟨XF, 0, none⟩ _ k (fun e => hX ((show k = XF from e) ▸ hk)))) (fun h6 => ?_)
    clear hK4 K4
    try simp only [Act.put, List.setIfInBounds_toArray, List.set_cons_zero, List.set_cons_succ]
    refine wpAnyH_done (by kernel_rfl) ?_ _
    exact HK.out _ _ _ _ _ _ _ _ _ _ _ _ _ _ _ _ w3 _ _ HO3.out HG3.out HL3.out rfl rfl rfl rfl
  · refine AllReadyH.cons rfl (fun K1 hK1 => ?_) AllReadyH.nil
    go_simp
    refine hK1.out _ _ (s5_keep hHeld hL (fun k hk => Below.heap_alloc _ _ _ (hL k hk))) (fun h1 => ?_)
    clear hK1 K1
    try simp only [Act.put, List.setIfInBounds_toArray, List.set_cons_zero, List.set_cons_succ]
    refine wpAnyH_ready (rs := [0]) (by kernel_rfl) (by simp) ?_
    refine AllReadyH.cons rfl (fun K2 hK2 => ?_) AllReadyH.nil
    go_simp
    refine hK2.out _ _ h1 (fun h2 => ?_)
    clear hK2 K2
    try simp only [Act.put, List.setIfInBounds_toArray, List.set_cons_zero, List.set_cons_succ]
    refine wpAnyH_ready (rs := [14]) (by kernel_rfl) (by simp) ?_
    refine AllReadyH.cons rfl (fun K3 hK3 => ?_) AllReadyH.nil
    refine step_append (base := N) (n := m) (v := .slice sva m svc) (by rfl) (.tmp 54) (.tmp 67) 23 (by rfl) 32 _ 4 56 Yba.underlying23 info32 rfl (by decide) (by decide) (by rfl) (by rfl) [.string { data := #[110, 111, 110, 114, 101, 112, 101, 97, 116, 97, 98, 108, 101, 45, 114, 101, 97, 100] }, .int .i64 ta, .int .i64 tb, .slice (some ⟨gi, 0, none⟩) 1 1] rfl (by exact news4 _ rfl) (by simp [Value.oneCell']) (by exact OW.out.alloc _) (by omega) (by exact Nat.le_trans hb (by simp)) ?_
    intro v' w3 ho3 hg3 hl3
    obtain ⟨va', vc', hv3⟩ := sl_shape ho3
    subst hv3
    have hg3' := grown_of_drew hg3
    have hbk := (hg3'.block XF (by simp; omega) (fun e => (HN.out _ e.symm).1 rfl)).trans (Below.heap_alloc _ _ _ lf)
    have b9' := (World.cell?_of_block (w := w) (a := ⟨XF, 0, none⟩) hbk).trans cf
    have z9' := (World.frozen?_of_block (w := w) (a := ⟨XF, 0, none⟩) hbk).trans zf
    have h4 : S5 A B xt yt XN ta tb (.slice (some ⟨gi, 0, none⟩) 1 1) w3 := s5_keep hHeld hL (fun k hk => (hg3'.block k (by have := hL k hk; simp; omega) (fun e => (HN.out k e.symm).2 hk)).trans (Below.heap_alloc _ _ _ (hL k hk)))
    have HO3 := hide ho3
    have HG3 := hide hg3'
    have HL3 := hide hl3
    clear ho3 hg3 hg3' hbk hl3
    refine hK3.out _ _ h4 (fun h5 => ?_)
    clear hK3 K3
    try simp only [Act.put, List.setIfInBounds_toArray, List.set_cons_zero, List.set_cons_succ]
    refine wpAnyH_ready (rs := [15]) (by kernel_rfl) (by simp) ?_
    refine AllReadyH.cons rfl (fun K4 hK4 => ?_) AllReadyH.nil
    go_simp
    refine hK4.out _ _ (s5_keep h4 (fun k hk => Nat.lt_of_lt_of_le (hL k hk) (Nat.le_trans (by simp) HG3.out.size)) (fun k hk => Below.heap_setCell w3 ⟨XF, 0, none⟩ _ k (fun e => hX ((show k = XF from e) ▸ hk)))) (fun h6 => ?_)
    clear hK4 K4
    try simp only [Act.put, List.setIfInBounds_toArray, List.set_cons_zero, List.set_cons_succ]
    refine wpAnyH_done (by kernel_rfl) ?_ _
    exact HK.out _ _ _ _ _ _ _ _ _ _ _ _ _ _ _ _ w3 _ _ HO3.out HG3.out HL3.out rfl rfl rfl rfl

set_option maxHeartbeats 1000000 in
theorem vreg7 {K : Act → World → Prop} {Q : Exit → Act → World → Prop} {N XF XN A B xt yt gi m : Nat} {ta tb : Int} {s : ByteArray} {sva : Option Addr} {svc : Nat} {XS : List Value} {w : World} {y0 y1 y2 y3 y4 y7 y10 y11 y12 y13 y14 y15 y16 y17 y18 y19 y20 y21 y22 y23 y24 y25 y26 y27 y28 y29 y30 y31 y32 y33 y34 y35 y36 y37 y38 y39 y40 y41 y42 y43 y44 y45 y46 y47 y48 y49 y50 y51 y52 y53 y54 y55 y56 y57 y58 y59 y60 y61 y62 y63 y64 y65 y66 y67 y68 y69 y70 y71 y72 y73 y74 y75 y76 y77 y78 y79 y80 y81 y82 y83 y84 y85 y86 y87 y88 y89 y90 y91 y92 y93 y94 y95 y96 y97 y98 y99 y100 y101 y102 : Value}
    (cf : w.cell? ⟨XF, 0, none⟩ = some (.slice sva m svc)) (zf : w.frozen? ⟨XF, 0, none⟩ = false) (lf : XF < w.heap.size) (ca : w.cell? ⟨A, 0, none⟩ = some (Pp xt)) (cb : w.cell? ⟨B, 0, none⟩ = some (Pp yt)) (cx : w.cell? ⟨xt, 0, none⟩ = some (.int .i64 ta)) (cy : w.cell? ⟨yt, 0, none⟩ = some (.int .i64 tb)) (cn : w.cell? ⟨XN, 0, none⟩ = some (.string s))
    (hN : ∀ k, (Value.slice sva m svc).ownBlock = some k → k ≠ XF ∧ ¬ (k = A ∨ k = B ∨ k = xt ∨ k = yt ∨ k = XN)) (hL : ∀ k, (k = A ∨ k = B ∨ k = xt ∨ k = yt ∨ k = XN) → k < w.heap.size) (hX : ¬ (XF = A ∨ XF = B ∨ XF = xt ∨ XF = yt ∨ XF = XN)) (ow : w.ownsRow N 74 3 (.slice sva m svc) m XS) (hm : m ≤ 2000) (hb : N ≤ w.heap.size)
    (hK : ∀ (t71 t72 t73 t74 t75 t76 t77 t78 t79 t80 t81 t82 t83 t84 t85 : Value) (v' : Value) (w3 wx : World) (o : Obj), w3.ownsRow N 74 3 v' (m + 1) (XS ++ [.int .i64 ta, .int .i64 tb, .string s]) → (w.alloc o).grownBy w3 (Value.slice sva m svc).ownBlock → (v'.ownBlock = (Value.slice sva m svc).ownBlock ∨ v'.ownBlock = some (w.alloc o).heap.size) → wx.heap = (w3.setCell ⟨XF, 0, none⟩ v').heap → wx.os = w3.os → wx.tape = w3.tape → wx.output = w3.output → K { tmps := List.toArray (y0 :: y1 :: y2 :: y3 :: y4 :: (Pp XF) :: (Pp XN) :: y7 :: (Pp A) :: (Pp B) :: y10 :: y11 :: y12 :: y13 :: y14 :: y15 :: y16 :: y17 :: y18 :: y19 :: y20 :: y21 :: y22 :: y23 :: y24 :: y25 :: y26 :: y27 :: y28 :: y29 :: y30 :: y31 :: y32 :: y33 :: y34 :: y35 :: y36 :: y37 :: y38 :: y39 :: y40 :: y41 :: y42 :: y43 :: y44 :: y45 :: y46 :: y47 :: y48 :: y49 :: y50 :: y51 :: y52 :: y53 :: y54 :: y55 :: y56 :: y57 :: y58 :: y59 :: y60 :: y61 :: y62 :: y63 :: y64 :: y65 :: y66 :: y67 :: y68 :: y69 :: y70 :: t71 :: t72 :: t73 :: t74 :: t75 :: t76 :: t77 :: t78 :: t79 :: t80 :: t81 :: t82 :: t83 :: t84 :: t85 :: y86 :: y87 :: y88 :: y89 :: y90 :: y91 :: y92 :: y93 :: y94 :: y95 :: y96 :: y97 :: y98 :: y99 :: y100 :: y101 :: y102 :: []), defers := [] } wx) :
    Code.wp Yba.prog (rgOf Yba.f32.body 7) (Exit.then K Q) { tmps := List.toArray (y0 :: y1 :: y2 :: y3 :: y4 :: (Pp XF) :: (Pp XN) :: y7 :: (Pp A) :: (Pp B) :: y10 :: y11 :: y12 :: y13 :: y14 :: y15 :: y16 :: y17 :: y18 :: y19 :: y20 :: y21 :: y22 :: y23 :: y24 :: y25 :: y26 :: y27 :: y28 :: y29 :: y30 :: y31 :: y32 :: y33 :: y34 :: y35 :: y36 :: y37 :: y38 :: y39 :: y40 :: y41 :: y42 :: y43 :: y44 :: y45 :: y46 :: y47 :: y48 :: y49 :: y50 :: y51 :: y52 :: y53 :: y54 :: y55 :: y56 :: y57 :: y58 :: y59 :: y60 :: y61 :: y62 :: y63 :: y64 :: y65 :: y66 :: y67 :: y68 :: y69 :: y70 :: y71 :: y72 :: y73 :: y74 :: y75 :: y76 :: y77 :: y78 :: y79 :: y80 :: y81 :: y82 :: y83 :: y84 :: y85 :: y86 :: y87 :: y88 :: y89 :: y90 :: y91 :: y92 :: y93 :: y94 :: y95 :: y96 :: y97 :: y98 :: y99 :: y100 :: y101 :: y102 :: []), defers := [] } w := by
  have HK := hide hK
  have HN := hide hN
  have OW := hide ow
  clear hK hN ow
  conv => arg 2; whnf
  refine wp_region_noPanic ?_
  refine wp_region_held_drew (S := (S5 A B xt yt XN ta tb (.string s))) (by kernel_rfl) ⟨ca, cb, cx, cy, cn⟩ (fun hHeld => ?_)
  refine wpAnyH_take (i := 1) (v := ?_) rfl (by kernel_rfl) (by kernel_rfl) (by kernel_rfl) (fun _ _ _ h => h) (Or.inl ⟨by rfl, ?_⟩) (by assumption) ?_
  rotate_left
  · intro w hSw
    obtain ⟨s1, s2, s3, s4, s5⟩ := hSw
    go_simp
    with_reducible rfl
  try simp only [Act.put, List.setIfInBounds_toArray, List.set_cons_zero, List.set_cons_succ]
  refine wpAnyH_take (i := 2) (v := ?_) rfl (by kernel_rfl) (by kernel_rfl) (by kernel_rfl) (fun _ _ _ h => h) (Or.inl ⟨by rfl, ?_⟩) (by assumption) ?_
  rotate_left
  · intro w hSw
    obtain ⟨s1, s2, s3, s4, s5⟩ := hSw
    go_simp
    with_reducible rfl
  try simp only [Act.put, List.setIfInBounds_toArray, List.set_cons_zero, List.set_cons_succ]
  refine wpAnyH_take (i := 3) (v := ?_) rfl (by kernel_rfl) (by kernel_rfl) (by kernel_rfl) (fun _ _ _ h => h) (Or.inl ⟨by rfl, ?_⟩) (by assumption) ?_
  rotate_left
  · intro w hSw
    obtain ⟨s1, s2, s3, s4, s5⟩ := hSw
    go_simp
    with_reducible rfl
  try simp only [Act.put, List.setIfInBounds_toArray, List.set_cons_zero, List.set_cons_succ]
  refine wpAnyH_take (i := 4) (v := ?_) rfl (by kernel_rfl) (by kernel_rfl) (by kernel_rfl) (fun _ _ _ h => h) (Or.inl ⟨by rfl, ?_⟩) (by assumption) ?_
  rotate_left
  · intro w hSw
    obtain ⟨s1, s2, s3, s4, s5⟩ := hSw
    go_simp
    with_reducible rfl
  try simp only [Act.put, List.setIfInBounds_toArray, List.set_cons_zero, List.set_cons_succ]
  refine wpAnyH_take (i := 5) (v := ?_) rfl (by kernel_rfl) (by kernel_rfl) (by kernel_rfl) (fun _ _ _ h => h) (Or.inl ⟨by rfl, ?_⟩) (by assumption) ?_
  rotate_left
  · intro w hSw
    obtain ⟨s1, s2, s3, s4, s5⟩ := hSw
    go_simp
    with_reducible rfl
  try simp only [Act.put, List.setIfInBounds_toArray, List.set_cons_zero, List.set_cons_succ]
  refine wpAnyH_take (i := 6) (v := ?_) rfl (by kernel_rfl) (by kernel_rfl) (by kernel_rfl) (fun _ _ _ h => h) (Or.inl ⟨by rfl, ?_⟩) (by assumption) ?_
  rotate_left
  · intro w hSw
    obtain ⟨s1, s2, s3, s4, s5⟩ := hSw
    go_simp
    with_reducible rfl
  try simp only [Act.put, List.setIfInBounds_toArray, List.set_cons_zero, List.set_cons_succ]
  refine wpAnyH_take (i := 7) (v := ?_) rfl (by kernel_rfl) (by kernel_rfl) (by kernel_rfl) (fun _ _ _ h => h) (Or.inl ⟨by rfl, ?_⟩) (by assumption) ?_
  rotate_left
  · intro w hSw
    obtain ⟨s1, s2, s3, s4, s5⟩ := hSw
    go_simp
    with_reducible rfl
  try simp only [Act.put, List.setIfInBounds_toArray, List.set_cons_zero, List.set_cons_succ]
  refine wpAnyH_take (i := 8) (v := ?_) rfl (by kernel_rfl) (by kernel_rfl) (by kernel_rfl) (fun _ _ _ h => h) (Or.inl ⟨by rfl, ?_⟩) (by assumption) ?_
  rotate_left
  · intro w hSw
    obtain ⟨s1, s2, s3, s4, s5⟩ := hSw
    go_simp
    with_reducible rfl
  try simp only [Act.put, List.setIfInBounds_toArray, List.set_cons_zero, List.set_cons_succ]
  refine wpAnyH_take (i := 9) (v := ?_) rfl (by kernel_rfl) (by kernel_rfl) (by kernel_rfl) (fun _ _ _ h => h) (Or.inl ⟨by rfl, ?_⟩) (by assumption) ?_
  rotate_left
  · intro w hSw
    obtain ⟨s1, s2, s3, s4, s5⟩ := hSw
    go_simp
    with_reducible rfl
  try simp only [Act.put, List.setIfInBounds_toArray, List.set_cons_zero, List.set_cons_succ]
  refine wpAnyH_take (i := 10) (v := ?_) rfl (by kernel_rfl) (by kernel_rfl) (by kernel_rfl) (fun _ _ _ h => h) (Or.inl ⟨by rfl, ?_⟩) (by assumption) ?_
  rotate_left
  · intro w hSw
    obtain ⟨s1, s2, s3, s4, s5⟩ := hSw
    go_simp
    with_reducible rfl
  try simp only [Act.put, List.setIfInBounds_toArray, List.set_cons_zero, List.set_cons_succ]
  refine wpAnyH_take (i := 11) (v := ?_) rfl (by kernel_rfl) (by kernel_rfl) (by kernel_rfl) (fun _ _ _ h => h) (Or.inl ⟨by rfl, ?_⟩) (by assumption) ?_
  rotate_left
  · intro w hSw
    obtain ⟨s1, s2, s3, s4, s5⟩ := hSw
    go_simp
    with_reducible rfl
  try simp only [Act.put, List.setIfInBounds_toArray, List.set_cons_zero, List.set_cons_succ]
  refine wpAnyH_take (i := 12) (v := ?_) rfl (by kernel_rfl) (by kernel_rfl) (by kernel_rfl) (fun _ _ _ h => h) (Or.inl ⟨by rfl, ?_⟩) (by assumption) ?_
  rotate_left
  · intro w hSw
    obtain ⟨s1, s2, s3, s4, s5⟩ := hSw
    go_simp
    with_reducible rfl
  try simp only [Act.put, List.setIfInBounds_toArray, List.set_cons_zero, List.set_cons_succ]
  refine wpAnyH_ready (rs := [0, 13]) (by kernel_rfl) (by simp) ?_
  refine AllReadyH.cons rfl (fun K1 hK1 => ?_) ?_
  · go_simp
    refine hK1.out _ _ hHeld (fun h1 => ?_)
    clear hK1 K1
    try simp only [Act.put, List.setIfInBounds_toArray, List.set_cons_zero, List.set_cons_succ]
    refine wpAnyH_ready (rs := [13]) (by kernel_rfl) (by simp) ?_
    refine AllReadyH.cons rfl (fun K2 hK2 => ?_) AllReadyH.nil
    go_simp
    refine hK2.out _ _ (s5_keep hHeld hL (fun k hk => Below.heap_alloc _ _ _ (hL k hk))) (fun h2 => ?_)
    clear hK2 K2
    try simp only [Act.put, List.setIfInBounds_toArray, List.set_cons_zero, List.set_cons_succ]
    refine wpAnyH_ready (rs := [14]) (by kernel_rfl) (by simp) ?_
    refine AllReadyH.cons rfl (fun K3 hK3 => ?_) AllReadyH.nil
    refine step_append (base := N) (n := m) (v := .slice sva m svc) (by rfl) (.tmp 71) (.tmp 84) 25 (by rfl) 74 _ 3 32 Yba.underlying25 info74 rfl (by decide) (by decide) (by rfl) (by rfl) [.int .i64 ta, .int .i64 tb, .string s] rfl (by exact news3 _ rfl) (by simp [Value.oneCell']) (by exact OW.out.alloc _) (by omega) (by exact Nat.le_trans hb (by simp)) ?_
    intro v' w3 ho3 hg3 hl3
    obtain ⟨va', vc', hv3⟩ := sl_shape ho3
    subst hv3
    have hg3' := grown_of_drew hg3
    have hbk := (hg3'.block XF (by simp; omega) (fun e => (HN.out _ e.symm).1 rfl)).trans (Below.heap_alloc _ _ _ lf)
    have b9' := (World.cell?_of_block (w := w) (a := ⟨XF, 0, none⟩) hbk).trans cf
    have z9' := (World.frozen?_of_block (w := w) (a := ⟨XF, 0, none⟩) hbk).trans zf
    have h4 : S5 A B xt yt XN ta tb (.string s) w3 := s5_keep hHeld hL (fun k hk => (hg3'.block k (by have := hL k hk; simp; omega) (fun e => (HN.out k e.symm).2 hk)).trans (Below.heap_alloc _ _ _ (hL k hk)))
    have HO3 := hide ho3
    have HG3 := hide hg3'
    have HL3 := hide hl3
    clear ho3 hg3 hg3' hbk hl3
    refine hK3.out _ _ h4 (fun h5 => ?_)
    clear hK3 K3
    try simp only [Act.put, List.setIfInBounds_toArray, List.set_cons_zero, List.set_cons_succ]
    refine wpAnyH_ready (rs := [15]) (by kernel_rfl) (by simp) ?_
    refine AllReadyH.cons rfl (fun K4 hK4 => ?_) AllReadyH.nil
    go_simp
    refine hK4.out _ _ (s5_keep h4 (fun k hk => Nat.lt_of_lt_of_le (hL k hk) (Nat.le_trans (by simp) HG3.out.size)) (fun k hk => Below.heap_setCell w3 ⟨XF, 0, none⟩ _ k (fun e => hX ((show k = XF from e) ▸ hk)))) (fun h6 => ?_)
    clear hK4 K4
    try simp only [Act.put, List.setIfInBounds_toArray, List.set_cons_zero, List.set_cons_succ]
    refine wpAnyH_done (by kernel_rfl) ?_ _
    exact HK.out _ _ _ _ _ _ _ _ _ _ _ _ _ _ _ _ w3 _ _ HO3.out HG3.out HL3.out rfl rfl rfl rfl
  · refine AllReadyH.cons rfl (fun K1 hK1 => ?_) AllReadyH.nil
    go_simp
    refine hK1.out _ _ (s5_keep hHeld hL (fun k hk => Below.heap_alloc _ _ _ (hL k hk))) (fun h1 => ?_)
    clear hK1 K1
    try simp only [Act.put, List.setIfInBounds_toArray, List.set_cons_zero, List.set_cons_succ]
    refine wpAnyH_ready (rs := [0]) (by kernel_rfl) (by simp) ?_
    refine AllReadyH.cons rfl (fun K2 hK2 => ?_) AllReadyH.nil
    go_simp
    refine hK2.out _ _ h1 (fun h2 => ?_)
    clear hK2 K2
    try simp only [Act.put, List.setIfInBounds_toArray, List.set_cons_zero, List.set_cons_succ]
    refine wpAnyH_ready (rs := [14]) (by kernel_rfl) (by simp) ?_
    refine AllReadyH.cons rfl (fun K3 hK3 => ?_) AllReadyH.nil
    refine step_append (base := N) (n := m) (v := .slice sva m svc) (by rfl) (.tmp 71) (.tmp 84) 25 (by rfl) 74 _ 3 32 Yba.underlying25 info74 rfl (by decide) (by decide) (by rfl) (by rfl) [.int .i64 ta, .int .i64 tb, .string s] rfl (by exact news3 _ rfl) (by simp [Value.oneCell']) (by exact OW.out.alloc _) (by omega) (by exact Nat.le_trans hb (by simp)) ?_
    intro v' w3 ho3 hg3 hl3
    obtain ⟨va', vc', hv3⟩ := sl_shape ho3
    subst hv3
    have hg3' := grown_of_drew hg3
    have hbk := (hg3'.block XF (by simp; omega) (fun e => (HN.out _ e.symm).1 rfl)).trans (Below.heap_alloc _ _ _ lf)
    have b9' := (World.cell?_of_block (w := w) (a := ⟨XF, 0, none⟩) hbk).trans cf
    have z9' := (World.frozen?_of_block (w := w) (a := ⟨XF, 0, none⟩) hbk).trans zf
    have h4 : S5 A B xt yt XN ta tb (.string s) w3 := s5_keep hHeld hL (fun k hk => (hg3'.block k (by have := hL k hk; simp; omega) (fun e => (HN.out k e.symm).2 hk)).trans (Below.heap_alloc _ _ _ (hL k hk)))
    have HO3 := hide ho3
    have HG3 := hide hg3'
    have HL3 := hide hl3
    clear ho3 hg3 hg3' hbk hl3
    refine hK3.out _ _ h4 (fun h5 => ?_)
    clear hK3 K3
    try simp only [Act.put, List.setIfInBounds_toArray, List.set_cons_zero, List.set_cons_succ]
    refine wpAnyH_ready (rs := [15]) (by kernel_rfl) (by simp) ?_
    refine AllReadyH.cons rfl (fun K4 hK4 => ?_) AllReadyH.nil
    go_simp
    refine hK4.out _ _ (s5_keep h4 (fun k hk => Nat.lt_of_lt_of_le (hL k hk) (Nat.le_trans (by simp) HG3.out.size)) (fun k hk => Below.heap_setCell w3 ⟨XF, 0, none⟩ _ k (fun e => hX ((show k = XF from e) ▸ hk)))) (fun h6 => ?_)
    clear hK4 K4
    try simp only [Act.put, List.setIfInBounds_toArray, List.set_cons_zero, List.set_cons_succ]
    refine wpAnyH_done (by kernel_rfl) ?_ _
    exact HK.out _ _ _ _ _ _ _ _ _ _ _ _ _ _ _ _ w3 _ _ HO3.out HG3.out HL3.out rfl rfl rfl rfl

set_option maxHeartbeats 1000000 in
theorem vreg9 {K : Act → World → Prop} {Q : Exit → Act → World → Prop} {N XF XN A B xt yt gi m : Nat} {ta tb : Int} {s : ByteArray} {sva : Option Addr} {svc : Nat} {XS : List Value} {w : World} {y0 y1 y2 y3 y4 y5 y10 y11 y12 y13 y14 y15 y16 y17 y18 y19 y20 y21 y22 y23 y24 y25 y26 y27 y28 y29 y30 y31 y32 y33 y34 y35 y36 y37 y38 y39 y40 y41 y42 y43 y44 y45 y46 y47 y48 y49 y50 y51 y52 y53 y54 y55 y56 y57 y58 y59 y60 y61 y62 y63 y64 y65 y66 y67 y68 y69 y70 y71 y72 y73 y74 y75 y76 y77 y78 y79 y80 y81 y82 y83 y84 y85 y86 y87 y88 y89 y90 y91 y92 y93 y94 y95 y96 y97 y98 y99 y100 y101 y102 : Value}
    (cf : w.cell? ⟨XF, 0, none⟩ = some (.slice sva m svc)) (zf : w.frozen? ⟨XF, 0, none⟩ = false) (lf : XF < w.heap.size) (ca : w.cell? ⟨A, 0, none⟩ = some (Pp xt)) (cb : w.cell? ⟨B, 0, none⟩ = some (Pp yt)) (cx : w.cell? ⟨xt, 0, none⟩ = some (.int .i64 ta)) (cy : w.cell? ⟨yt, 0, none⟩ = some (.int .i64 tb)) (cn : w.cell? ⟨XN, 0, none⟩ = some (.string s))
    (hN : ∀ k, (Value.slice sva m svc).ownBlock = some k → k ≠ XF ∧ ¬ (k = A ∨ k = B ∨ k = xt ∨ k = yt ∨ k = XN)) (hL : ∀ k, (k = A ∨ k = B ∨ k = xt ∨ k = yt ∨ k = XN) → k < w.heap.size) (hX : ¬ (XF = A ∨ XF = B ∨ XF = xt ∨ XF = yt ∨ XF = XN)) (ow : w.ownsRow N 74 3 (.slice sva m svc) m XS) (hm : m ≤ 2000) (hb : N ≤ w.heap.size)
    (hK : ∀ (t88 t89 t90 t91 t92 t93 t94 t95 t96 t97 t98 t99 t100 t101 t102 : Value) (v' : Value) (w3 wx : World) (o : Obj), w3.ownsRow N 74 3 v' (m + 1) (XS ++ [.int .i64 ta, .int .i64 tb, .string s]) → (w.alloc o).grownBy w3 (Value.slice sva m svc).ownBlock → (v'.ownBlock = (Value.slice sva m svc).ownBlock ∨ v'.ownBlock = some (w.alloc o).heap.size) → wx.heap = (w3.setCell ⟨XF, 0, none⟩ v').heap → wx.os = w3.os → wx.tape = w3.tape → wx.output = w3.output → K { tmps := List.toArray (y0 :: y1 :: y2 :: y3 :: y4 :: y5 :: (Pp XN) :: (Pp XF) :: (Pp A) :: (Pp B) :: y10 :: y11 :: y12 :: y13 :: y14 :: y15 :: y16 :: y17 :: y18 :: y19 :: y20 :: y21 :: y22 :: y23 :: y24 :: y25 :: y26 :: y27 :: y28 :: y29 :: y30 :: y31 :: y32 :: y33 :: y34 :: y35 :: y36 :: y37 :: y38 :: y39 :: y40 :: y41 :: y42 :: y43 :: y44 :: y45 :: y46 :: y47 :: y48 :: y49 :: y50 :: y51 :: y52 :: y53 :: y54 :: y55 :: y56 :: y57 :: y58 :: y59 :: y60 :: y61 :: y62 :: y63 :: y64 :: y65 :: y66 :: y67 :: y68 :: y69 :: y70 :: y71 :: y72 :: y73 :: y74 :: y75 :: y76 :: y77 :: y78 :: y79 :: y80 :: y81 :: y82 :: y83 :: y84 :: y85 :: y86 :: y87 :: t88 :: t89 :: t90 :: t91 :: t92 :: t93 :: t94 :: t95 :: t96 :: t97 :: t98 :: t99 :: t100 :: t101 :: t102 :: []), defers := [] } wx) :
    Code.wp Yba.prog (rgOf Yba.f32.body 9) (Exit.then K Q) { tmps := List.toArray (y0 :: y1 :: y2 :: y3 :: y4 :: y5 :: (Pp XN) :: (Pp XF) :: (Pp A) :: (Pp B) :: y10 :: y11 :: y12 :: y13 :: y14 :: y15 :: y16 :: y17 :: y18 :: y19 :: y20 :: y21 :: y22 :: y23 :: y24 :: y25 :: y26 :: y27 :: y28 :: y29 :: y30 :: y31 :: y32 :: y33 :: y34 :: y35 :: y36 :: y37 :: y38 :: y39 :: y40 :: y41 :: y42 :: y43 :: y44 :: y45 :: y46 :: y47 :: y48 :: y49 :: y50 :: y51 :: y52 :: y53 :: y54 :: y55 :: y56 :: y57 :: y58 :: y59 :: y60 :: y61 :: y62 :: y63 :: y64 :: y65 :: y66 :: y67 :: y68 :: y69 :: y70 :: y71 :: y72 :: y73 :: y74 :: y75 :: y76 :: y77 :: y78 :: y79 :: y80 :: y81 :: y82 :: y83 :: y84 :: y85 :: y86 :: y87 :: y88 :: y89 :: y90 :: y91 :: y92 :: y93 :: y94 :: y95 :: y96 :: y97 :: y98 :: y99 :: y100 :: y101 :: y102 :: []), defers := [] } w := by
  have HK := hide hK
  have HN := hide hN
  have OW := hide ow
  clear hK hN ow
  conv => arg 2; whnf
  refine wp_region_noPanic ?_
  refine wp_region_held_drew (S := (S5 A B xt yt XN ta tb (.string s))) (by kernel_rfl) ⟨ca, cb, cx, cy, cn⟩ (fun hHeld => ?_)
  refine wpAnyH_take (i := 1) (v := ?_) rfl (by kernel_rfl) (by kernel_rfl) (by kernel_rfl) (fun _ _ _ h => h) (Or.inl ⟨by rfl, ?_⟩) (by assumption) ?_
  rotate_left
  · intro w hSw
    obtain ⟨s1, s2, s3, s4, s5⟩ := hSw
    go_simp
    with_reducible rfl
  try simp only [Act.put, List.setIfInBounds_toArray, List.set_cons_zero, List.set_cons_succ]
  refine wpAnyH_take (i := 2) (v := ?_) rfl (by kernel_rfl) (by kernel_rfl) (by kernel_rfl) (fun _ _ _ h => h) (Or.inl ⟨by rfl, ?_⟩) (by assumption) ?_
  rotate_left
  · intro w hSw
    obtain ⟨s1, s2, s3, s4, s5⟩ := hSw
    go_simp
    with_reducible rfl
  try simp only [Act.put, List.setIfInBounds_toArray, List.set_cons_zero, List.set_cons_succ]
  refine wpAnyH_take (i := 3) (v := ?_) rfl (by kernel_rfl) (by kernel_rfl) (by kernel_rfl) (fun _ _ _ h => h) (Or.inl ⟨by rfl, ?_⟩) (by assumption) ?_
  rotate_left
  · intro w hSw
    obtain ⟨s1, s2, s3, s4, s5⟩ := hSw
    go_simp
    with_reducible rfl
  try simp only [Act.put, List.setIfInBounds_toArray, List.set_cons_zero, List.set_cons_succ]
  refine wpAnyH_take (i := 4) (v := ?_) rfl (by kernel_rfl) (by kernel_rfl) (by kernel_rfl) (fun _ _ _ h => h) (Or.inl ⟨by rfl, ?_⟩) (by assumption) ?_
  rotate_left
  · intro w hSw
    obtain ⟨s1, s2, s3, s4, s5⟩ := hSw
    go_simp
    with_reducible rfl
  try simp only [Act.put, List.setIfInBounds_toArray, List.set_cons_zero, List.set_cons_succ]
  refine wpAnyH_take (i := 5) (v := ?_) rfl (by kernel_rfl) (by kernel_rfl) (by kernel_rfl) (fun _ _ _ h => h) (Or.inl ⟨by rfl, ?_⟩) (by assumption) ?_
  rotate_left
  · intro w hSw
    obtain ⟨s1, s2, s3, s4, s5⟩ := hSw
    go_simp
    with_reducible rfl
  try simp only [Act.put, List.setIfInBounds_toArray, List.set_cons_zero, List.set_cons_succ]
  refine wpAnyH_take (i := 6) (v := ?_) rfl (by kernel_rfl) (by kernel_rfl) (by kernel_rfl) (fun _ _ _ h => h) (Or.inl ⟨by rfl, ?_⟩) (by assumption) ?_
  rotate_left
  · intro w hSw
    obtain ⟨s1, s2, s3, s4, s5⟩ := hSw
    go_simp
    with_reducible rfl
  try simp only [Act.put, List.setIfInBounds_toArray, List.set_cons_zero, List.set_cons_succ]
  refine wpAnyH_take (i := 7) (v := ?_) rfl (by kernel_rfl) (by kernel_rfl) (by kernel_rfl) (fun _ _ _ h => h) (Or.inl ⟨by rfl, ?_⟩) (by assumption) ?_
  rotate_left
  · intro w hSw
    obtain ⟨s1, s2, s3, s4, s5⟩ := hSw
    go_simp
    with_reducible rfl
  try simp only [Act.put, List.setIfInBounds_toArray, List.set_cons_zero, List.set_cons_succ]
  refine wpAnyH_take (i := 8) (v := ?_) rfl (by kernel_rfl) (by kernel_rfl) (by kernel_rfl) (fun _ _ _ h => h) (Or.inl ⟨by rfl, ?_⟩) (by assumption) ?_
  rotate_left
  · intro w hSw
    obtain ⟨s1, s2, s3, s4, s5⟩ := hSw
    go_simp
    with_reducible rfl
  try simp only [Act.put, List.setIfInBounds_toArray, List.set_cons_zero, List.set_cons_succ]
  refine wpAnyH_take (i := 9) (v := ?_) rfl (by kernel_rfl) (by kernel_rfl) (by kernel_rfl) (fun _ _ _ h => h) (Or.inl ⟨by rfl, ?_⟩) (by assumption) ?_
  rotate_left
  · intro w hSw
    obtain ⟨s1, s2, s3, s4, s5⟩ := hSw
    go_simp
    with_reducible rfl
  try simp only [Act.put, List.setIfInBounds_toArray, List.set_cons_zero, List.set_cons_succ]
  refine wpAnyH_take (i := 10) (v := ?_) rfl (by kernel_rfl) (by kernel_rfl) (by kernel_rfl) (fun _ _ _ h => h) (Or.inl ⟨by rfl, ?_⟩) (by assumption) ?_
  rotate_left
  · intro w hSw
    obtain ⟨s1, s2, s3, s4, s5⟩ := hSw
    go_simp
    with_reducible rfl
  try simp only [Act.put, List.setIfInBounds_toArray, List.set_cons_zero, List.set_cons_succ]
  refine wpAnyH_take (i := 11) (v := ?_) rfl (by kernel_rfl) (by kernel_rfl) (by kernel_rfl) (fun _ _ _ h => h) (Or.inl ⟨by rfl, ?_⟩) (by assumption) ?_
  rotate_left
  · intro w hSw
    obtain ⟨s1, s2, s3, s4, s5⟩ := hSw
    go_simp
    with_reducible rfl
  try simp only [Act.put, List.setIfInBounds_toArray, List.set_cons_zero, List.set_cons_succ]
  refine wpAnyH_take (i := 12) (v := ?_) rfl (by kernel_rfl) (by kernel_rfl) (by kernel_rfl) (fun _ _ _ h => h) (Or.inl ⟨by rfl, ?_⟩) (by assumption) ?_
  rotate_left
  · intro w hSw
    obtain ⟨s1, s2, s3, s4, s5⟩ := hSw
    go_simp
    with_reducible rfl
  try simp only [Act.put, List.setIfInBounds_toArray, List.set_cons_zero, List.set_cons_succ]
  refine wpAnyH_ready (rs := [0, 13]) (by kernel_rfl) (by simp) ?_
  refine AllReadyH.cons rfl (fun K1 hK1 => ?_) ?_
  · go_simp
    refine hK1.out _ _ hHeld (fun h1 => ?_)
    clear hK1 K1
    try simp only [Act.put, List.setIfInBounds_toArray, List.set_cons_zero, List.set_cons_succ]
    refine wpAnyH_ready (rs := [13]) (by kernel_rfl) (by simp) ?_
    refine AllReadyH.cons rfl (fun K2 hK2 => ?_) AllReadyH.nil
    go_simp
    refine hK2.out _ _ (s5_keep hHeld hL (fun k hk => Below.heap_alloc _ _ _ (hL k hk))) (fun h2 => ?_)
    clear hK2 K2
    try simp only [Act.put, List.setIfInBounds_toArray, List.set_cons_zero, List.set_cons_succ]
    refine wpAnyH_ready (rs := [14]) (by kernel_rfl) (by simp) ?_
    refine AllReadyH.cons rfl (fun K3 hK3 => ?_) AllReadyH.nil
    refine step_append (base := N) (n := m) (v := .slice sva m svc) (by rfl) (.tmp 88) (.tmp 101) 25 (by rfl) 74 _ 3 32 Yba.underlying25 info74 rfl (by decide) (by decide) (by rfl) (by rfl) [.int .i64 ta, .int .i64 tb, .string s] rfl (by exact news3 _ rfl) (by simp [Value.oneCell']) (by exact OW.out.alloc _) (by omega) (by exact Nat.le_trans hb (by simp)) ?_
    intro v' w3 ho3 hg3 hl3
    obtain ⟨va', vc', hv3⟩ := sl_shape ho3
    subst hv3
    have hg3' := grown_of_drew hg3
    have hbk := (hg3'.block XF (by simp; omega) (fun e => (HN.out _ e.symm).1 rfl)).trans (Below.heap_alloc _ _ _ lf)
    have b9' := (World.cell?_of_block (w := w) (a := ⟨XF, 0, none⟩) hbk).trans cf
    have z9' := (World.frozen?_of_block (w := w) (a := ⟨XF, 0, none⟩) hbk).trans zf
    have h4 : S5 A B xt yt XN ta tb (.string s) w3 := s5_keep hHeld hL (fun k hk => (hg3'.block k (by have := hL k hk; simp; omega) (fun e => (HN.out k e.symm).2 hk)).trans (Below.heap_alloc _ _ _ (hL k hk)))
    have HO3 := hide ho3
    have HG3 := hide hg3'
    have HL3 := hide hl3
    clear ho3 hg3 hg3' hbk hl3
    refine hK3.out _ _ h4 (fun h5 => ?_)
    clear hK3 K3
    try simp only [Act.put, List.setIfInBounds_toArray, List.set_cons_zero, List.set_cons_succ]
    refine wpAnyH_ready (rs := [15]) (by kernel_rfl) (by simp) ?_
    refine AllReadyH.cons rfl (fun K4 hK4 => ?_) AllReadyH.nil
    go_simp
    refine hK4.out _ _ (s5_keep h4 (fun k hk => Nat.lt_of_lt_of_le (hL k hk) (Nat.le_trans (by simp) HG3.out.size)) (fun k hk => Below.heap_setCell w3 ⟨XF, 0, none⟩ _ k (fun e => hX ((show k = XF from e) ▸ hk)))) (fun h6 => ?_)
    clear hK4 K4
    try simp only [Act.put, List.setIfInBounds_toArray, List.set_cons_zero, List.set_cons_succ]
    refine wpAnyH_done (by kernel_rfl) ?_ _
    exact HK.out _ _ _ _ _ _ _ _ _ _ _ _ _ _ _ _ w3 _ _ HO3.out HG3.out HL3.out rfl rfl rfl rfl
  · refine AllReadyH.cons rfl (fun K1 hK1 => ?_) AllReadyH.nil
    go_simp
    refine hK1.out _ _ (s5_keep hHeld hL (fun k hk => Below.heap_alloc _ _ _ (hL k hk))) (fun h1 => ?_)
    clear hK1 K1
    try simp only [Act.put, List.setIfInBounds_toArray, List.set_cons_zero, List.set_cons_succ]
    refine wpAnyH_ready (rs := [0]) (by kernel_rfl) (by simp) ?_
    refine AllReadyH.cons rfl (fun K2 hK2 => ?_) AllReadyH.nil
    go_simp
    refine hK2.out _ _ h1 (fun h2 => ?_)
    clear hK2 K2
    try simp only [Act.put, List.setIfInBounds_toArray, List.set_cons_zero, List.set_cons_succ]
    refine wpAnyH_ready (rs := [14]) (by kernel_rfl) (by simp) ?_
    refine AllReadyH.cons rfl (fun K3 hK3 => ?_) AllReadyH.nil
    refine step_append (base := N) (n := m) (v := .slice sva m svc) (by rfl) (.tmp 88) (.tmp 101) 25 (by rfl) 74 _ 3 32 Yba.underlying25 info74 rfl (by decide) (by decide) (by rfl) (by rfl) [.int .i64 ta, .int .i64 tb, .string s] rfl (by exact news3 _ rfl) (by simp [Value.oneCell']) (by exact OW.out.alloc _) (by omega) (by exact Nat.le_trans hb (by simp)) ?_
    intro v' w3 ho3 hg3 hl3
    obtain ⟨va', vc', hv3⟩ := sl_shape ho3
    subst hv3
    have hg3' := grown_of_drew hg3
    have hbk := (hg3'.block XF (by simp; omega) (fun e => (HN.out _ e.symm).1 rfl)).trans (Below.heap_alloc _ _ _ lf)
    have b9' := (World.cell?_of_block (w := w) (a := ⟨XF, 0, none⟩) hbk).trans cf
    have z9' := (World.frozen?_of_block (w := w) (a := ⟨XF, 0, none⟩) hbk).trans zf
    have h4 : S5 A B xt yt XN ta tb (.string s) w3 := s5_keep hHeld hL (fun k hk => (hg3'.block k (by have := hL k hk; simp; omega) (fun e => (HN.out k e.symm).2 hk)).trans (Below.heap_alloc _ _ _ (hL k hk)))
    have HO3 := hide ho3
    have HG3 := hide hg3'
    have HL3 := hide hl3
    clear ho3 hg3 hg3' hbk hl3
    refine hK3.out _ _ h4 (fun h5 => ?_)
    clear hK3 K3
    try simp only [Act.put, List.setIfInBounds_toArray, List.set_cons_zero, List.set_cons_succ]
    refine wpAnyH_ready (rs := [15]) (by kernel_rfl) (by simp) ?_
    refine AllReadyH.cons rfl (fun K4 hK4 => ?_) AllReadyH.nil
    go_simp
    refine hK4.out _ _ (s5_keep h4 (fun k hk => Nat.lt_of_lt_of_le (hL k hk) (Nat.le_trans (by simp) HG3.out.size)) (fun k hk => Below.heap_setCell w3 ⟨XF, 0, none⟩ _ k (fun e => hX ((show k = XF from e) ▸ hk)))) (fun h6 => ?_)
    clear hK4 K4
    try simp only [Act.put, List.setIfInBounds_toArray, List.set_cons_zero, List.set_cons_succ]
    refine wpAnyH_done (by kernel_rfl) ?_ _
    exact HK.out _ _ _ _ _ _ _ _ _ _ _ _ _ _ _ _ w3 _ _ HO3.out HG3.out HL3.out rfl rfl rfl rfl

end Go.Proofs.Ybulkaggi.BM

import Derived.Test.YbulkaggiC7
namespace Go.Proofs.Ybulkaggi.CE
open Go.RowKit Go.WideMaps Go.Maps
set_option linter.unusedVariables false
set_option maxRecDepth 100000

set_option maxHeartbeats 2000000 in
theorem serv12 {K : Act → World → Prop} {Q : Exit → Act → World → Prop} {N : Nat} {D : List Nat} {T x y i : Nat} {w : World} {S : St} {y0 y2 y3 y4 y5 y6 y8 y9 y10 y11 y12 y13 y14 y15 y16 y17 y18 y19 y20 y21 y22 y23 y24 y25 y26 y27 y28 y29 y30 y31 y32 y33 y34 y35 y36 y37 y38 y39 y40 y41 y42 y43 y44 y45 y46 y47 y48 y49 y50 y51 y52 y53 y54 y55 y56 y57 y58 y59 y60 y61 y62 y63 y64 y65 y66 y67 y68 y69 y70 y71 y72 y73 y74 y75 y76 y77 y78 y79 y80 y81 y82 y83 y84 y85 y86 y87 y88 y89 y90 y91 y92 y93 y94 y95 y96 y97 y98 y99 y100 y101 y102 y103 y104 y105 y106 y107 y108 y109 y110 y111 y112 y113 y114 y115 y116 y117 y118 y119 y120 y121 y122 y123 y124 y125 y126 y127 y128 y129 y130 y131 : Value} (h : Rel N D T w S) (hy : y ∈ S.hs) (hi : i ∈ S.its) (h64 : y ≠ 64) (hwy : S.wr i = some y) (hlen : (S.ql y).length ≤ 100000)
    (hK : ∀ (t98 t99 t100 t101 t102 t103 t104 t105 t106 t107 t108 t109 t110 t111 t112 t113 v : Value) (wx : World), Rel N D T wx { S with Q := upd S.Q y v, ql := upd S.ql y (S.ql y ++ [x]) } → Fr N D w wx → K { tmps := List.toArray (y0 :: (Pp (S.tb x)) :: y2 :: y3 :: y4 :: y5 :: y6 :: (Pp i) :: y8 :: y9 :: y10 :: y11 :: y12 :: y13 :: y14 :: y15 :: y16 :: y17 :: y18 :: y19 :: y20 :: y21 :: y22 :: y23 :: y24 :: y25 :: y26 :: y27 :: y28 :: y29 :: y30 :: y31 :: y32 :: y33 :: y34 :: y35 :: y36 :: y37 :: y38 :: y39 :: y40 :: y41 :: y42 :: y43 :: y44 :: y45 :: y46 :: y47 :: y48 :: y49 :: y50 :: y51 :: y52 :: y53 :: y54 :: y55 :: y56 :: y57 :: y58 :: y59 :: y60 :: y61 :: y62 :: y63 :: y64 :: y65 :: y66 :: y67 :: y68 :: y69 :: y70 :: y71 :: y72 :: y73 :: y74 :: y75 :: y76 :: y77 :: y78 :: y79 :: y80 :: y81 :: y82 :: y83 :: y84 :: y85 :: y86 :: y87 :: y88 :: y89 :: y90 :: y91 :: y92 :: y93 :: y94 :: y95 :: y96 :: y97 :: (t98) :: (t99) :: (t100) :: (t101) :: (t102) :: (t103) :: (t104) :: (t105) :: (t106) :: (t107) :: (t108) :: (t109) :: (t110) :: (t111) :: (t112) :: (t113) :: y114 :: y115 :: y116 :: y117 :: y118 :: y119 :: y120 :: y121 :: y122 :: y123 :: y124 :: y125 :: y126 :: y127 :: y128 :: y129 :: y130 :: y131 :: []), defers := [] } wx) :
    Code.wp Yba.prog (rgOf Yba.f41.body 12) (Exit.then K Q) { tmps := List.toArray (y0 :: (Pp (S.tb x)) :: y2 :: y3 :: y4 :: y5 :: y6 :: (Pp i) :: y8 :: y9 :: y10 :: y11 :: y12 :: y13 :: y14 :: y15 :: y16 :: y17 :: y18 :: y19 :: y20 :: y21 :: y22 :: y23 :: y24 :: y25 :: y26 :: y27 :: y28 :: y29 :: y30 :: y31 :: y32 :: y33 :: y34 :: y35 :: y36 :: y37 :: y38 :: y39 :: y40 :: y41 :: y42 :: y43 :: y44 :: y45 :: y46 :: y47 :: y48 :: y49 :: y50 :: y51 :: y52 :: y53 :: y54 :: y55 :: y56 :: y57 :: y58 :: y59 :: y60 :: y61 :: y62 :: y63 :: y64 :: y65 :: y66 :: y67 :: y68 :: y69 :: y70 :: y71 :: y72 :: y73 :: y74 :: y75 :: y76 :: y77 :: y78 :: y79 :: y80 :: y81 :: y82 :: y83 :: y84 :: y85 :: y86 :: y87 :: y88 :: y89 :: y90 :: y91 :: y92 :: y93 :: y94 :: y95 :: y96 :: y97 :: y98 :: y99 :: y100 :: y101 :: y102 :: y103 :: y104 :: y105 :: y106 :: y107 :: y108 :: y109 :: y110 :: y111 :: y112 :: y113 :: y114 :: y115 :: y116 :: y117 :: y118 :: y119 :: y120 :: y121 :: y122 :: y123 :: y124 :: y125 :: y126 :: y127 :: y128 :: y129 :: y130 :: y131 :: []), defers := [] } w := by
  have c0 : w.cell? ⟨S.tb y, 5, none⟩ = some (S.Q y) := (cell_at (h.x.at_ y hy) 5).trans rfl
  have z0 := free_at (h.x.at_ y hy) 5
  have c1 : w.cell? ⟨i, 2, none⟩ = some (Pp (S.tb y)) := by rw [cell_at (h.i.at_ i hi), hwy]; rfl
  have lx := hlt (h.x.at_ y hy)
  have li := hlt (h.i.at_ i hi)
  have how := h.q.own y (.inl hy)
  obtain ⟨va, vc, hv⟩ := sl_shape how
  have HN : Hid (∀ k, (S.Q y).ownBlock = some k → k ≠ S.tb y ∧ k ≠ i) := fun k hk => by
    obtain ⟨cs, hc⟩ := own_tag how hk
    exact ⟨tag_ne hc (h.x.at_ y hy) (by decide), tag_ne hc (h.i.at_ i hi) (by decide)⟩
  have HP : Hid (∀ v' w3 wx, w3.ownsRow N 53 1 v' ((S.ql y).length + 1) (((S.ql y).map fun z => Pp (S.tb z)) ++ [Pp (S.tb x)]) → (w.alloc (.cells #[Pp (S.tb x)] 53)).grownBy w3 (S.Q y).ownBlock → (v'.ownBlock = (S.Q y).ownBlock ∨ v'.ownBlock = some (w.alloc (.cells #[Pp (S.tb x)] 53)).heap.size) → wx.heap = (w3.setCell ⟨S.tb y, 5, none⟩ v').heap → wx.os = w3.os → wx.tape = w3.tape → wx.output = w3.output → Rel N D T wx { S with Q := upd S.Q y v', ql := upd S.ql y (S.ql y ++ [x]) } ∧ Fr N D w wx) := by
    intro v' w3 wx h1 h2 h3 e0 e1 e2 e3
    rw [← ptr_append] at h1
    obtain ⟨g1, g2⟩ := (h.alloc (.cells #[Pp (S.tb x)] 53)).pushQ hy h64 h2 (l' := S.ql y ++ [x]) (by simpa using h1) (or_snd h3 (fun e => ⟨_, e, Nat.le_refl _⟩))
    exact ⟨g1.heapEq e0, ((Fr.alloc h.low _).trans g2).heapEq e0 e1 e2 e3⟩
  have HW : Hid (w.ownsRow N 53 1 (.slice va (S.ql y).length vc) (S.ql y).length ((S.ql y).map fun z => Pp (S.tb z))) := by rw [← hv]; exact how
  have hbase := h.lowN
  rw [hv] at HN HP c0
  have HK := hide hK
  clear hK how h hy hi hv hwy
  generalize (S.ql y).length = m at *
  generalize (S.ql y).map (fun z => Pp (S.tb z)) = XS at *
  generalize S.tb x = A at *
  generalize S.tb y = B at *
  conv => arg 2; whnf
  refine wp_region_noPanic ?_
  go_region_law (refine step_append (base := N) (n := m) (v := .slice va m vc) (by rfl) (.tmp 108) (.tmp 110) 51 (by rfl) 53 _ 1 8 Yba.underlying51 info53 rfl (by decide) (by decide) (by rfl) (by rfl) [Pp A] rfl (by exact news1 _ rfl) (by simp [Value.oneCell']) (by exact HW.out.alloc _) (by omega) (by exact Nat.le_trans hbase (by simp)) ?_; intro v' w3 ho3 hg3 hl3; obtain ⟨va', vc', hv3⟩ := sl_shape ho3; subst hv3; have hg3' := grown_of_drew hg3; have hbk := (hg3'.block B (by simp; omega) (fun e => (HN.out B e.symm).1 rfl)).trans (Below.heap_alloc _ _ _ lx); have hbi := (hg3'.block i (by simp; omega) (fun e => (HN.out i e.symm).2 rfl)).trans (Below.heap_alloc _ _ _ li); have b8' := (World.cell?_of_block (w := w) (a := ⟨i, 2, none⟩) hbi).trans c1; have b9' := (World.cell?_of_block (w := w) (a := ⟨B, 5, none⟩) hbk).trans c0; have z9' := (World.frozen?_of_block (w := w) (a := ⟨B, 5, none⟩) hbk).trans z0; have HO3 := hide ho3; have HG3 := hide hg3'; have HL3 := hide hl3; clear ho3 hg3 hg3' hbk hbi hl3)
  all_goals (have P := HP.out _ w3 _ HO3.out HG3.out HL3.out rfl rfl rfl rfl; exact HK.out _ _ _ _ _ _ _ _ _ _ _ _ _ _ _ _ (.slice va' (m + 1) vc') _ P.1 P.2)

end Go.Proofs.Ybulkaggi.CE

import Derived.Test.YbulkaggiC7
namespace Go.Proofs.Ybulkaggi.CE
open Go.RowKit Go.WideMaps Go.Maps
set_option linter.unusedVariables false
set_option maxRecDepth 100000

set_option maxHeartbeats 2000000 in
theorem serv5 {K : Act → World → Prop} {Q : Exit → Act → World → Prop} {N : Nat} {D : List Nat} {T x i : Nat} {w : World} {S : St} {y2 y3 y4 y5 y6 y8 y9 y10 y11 y12 y13 y14 y15 y16 y17 y18 y19 y20 y21 y22 y23 y24 y25 y26 y27 y28 y29 y30 y31 y32 y33 y34 y35 y36 y37 y38 y39 y40 y41 y42 y43 y44 y45 y46 y47 y48 y49 y50 y51 y52 y53 y54 y55 y56 y57 y58 y59 y60 y61 y62 y63 y64 y65 y66 y67 y68 y69 y70 y71 y72 y73 y74 y75 y76 y77 y78 y79 y80 y81 y82 y83 y84 y85 y86 y87 y88 y89 y90 y91 y92 y93 y94 y95 y96 y97 y98 y99 y100 y101 y102 y103 y104 y105 y106 y107 y108 y109 y110 y111 y112 y113 y114 y115 y116 y117 y118 y119 y120 y121 y122 y123 y124 y125 y126 y127 y128 y129 y130 y131 : Value} (h : Rel N D T w S) (hx : x ∈ S.hs) (hi : i ∈ S.its) (hlen : S.gl.length ≤ 100000)
    (hK : ∀ (t52 t53 t54 t55 t56 t57 t58 t59 t60 t61 t62 t63 t64 t65 t66 t67 t68 t69 v : Value) (wx : World), Rel N D T wx { S with G := v, gl := S.gl ++ [((x : Int) + 1, S.wn i)] } → Fr N D w wx → K { tmps := List.toArray ((Pp T) :: (Pp (S.tb x)) :: y2 :: y3 :: y4 :: y5 :: y6 :: (Pp i) :: y8 :: y9 :: y10 :: y11 :: y12 :: y13 :: y14 :: y15 :: y16 :: y17 :: y18 :: y19 :: y20 :: y21 :: y22 :: y23 :: y24 :: y25 :: y26 :: y27 :: y28 :: y29 :: y30 :: y31 :: y32 :: y33 :: y34 :: y35 :: y36 :: y37 :: y38 :: y39 :: y40 :: y41 :: y42 :: y43 :: y44 :: y45 :: y46 :: y47 :: y48 :: y49 :: y50 :: y51 :: (t52) :: (t53) :: (t54) :: (t55) :: (t56) :: (t57) :: (t58) :: (t59) :: (t60) :: (t61) :: (t62) :: (t63) :: (t64) :: (t65) :: (t66) :: (t67) :: (t68) :: (t69) :: y70 :: y71 :: y72 :: y73 :: y74 :: y75 :: y76 :: y77 :: y78 :: y79 :: y80 :: y81 :: y82 :: y83 :: y84 :: y85 :: y86 :: y87 :: y88 :: y89 :: y90 :: y91 :: y92 :: y93 :: y94 :: y95 :: y96 :: y97 :: y98 :: y99 :: y100 :: y101 :: y102 :: y103 :: y104 :: y105 :: y106 :: y107 :: y108 :: y109 :: y110 :: y111 :: y112 :: y113 :: y114 :: y115 :: y116 :: y117 :: y118 :: y119 :: y120 :: y121 :: y122 :: y123 :: y124 :: y125 :: y126 :: y127 :: y128 :: y129 :: y130 :: y131 :: []), defers := [] } wx) :
    Code.wp Yba.prog (rgOf Yba.f41.body 5) (Exit.then K Q) { tmps := List.toArray ((Pp T) :: (Pp (S.tb x)) :: y2 :: y3 :: y4 :: y5 :: y6 :: (Pp i) :: y8 :: y9 :: y10 :: y11 :: y12 :: y13 :: y14 :: y15 :: y16 :: y17 :: y18 :: y19 :: y20 :: y21 :: y22 :: y23 :: y24 :: y25 :: y26 :: y27 :: y28 :: y29 :: y30 :: y31 :: y32 :: y33 :: y34 :: y35 :: y36 :: y37 :: y38 :: y39 :: y40 :: y41 :: y42 :: y43 :: y44 :: y45 :: y46 :: y47 :: y48 :: y49 :: y50 :: y51 :: y52 :: y53 :: y54 :: y55 :: y56 :: y57 :: y58 :: y59 :: y60 :: y61 :: y62 :: y63 :: y64 :: y65 :: y66 :: y67 :: y68 :: y69 :: y70 :: y71 :: y72 :: y73 :: y74 :: y75 :: y76 :: y77 :: y78 :: y79 :: y80 :: y81 :: y82 :: y83 :: y84 :: y85 :: y86 :: y87 :: y88 :: y89 :: y90 :: y91 :: y92 :: y93 :: y94 :: y95 :: y96 :: y97 :: y98 :: y99 :: y100 :: y101 :: y102 :: y103 :: y104 :: y105 :: y106 :: y107 :: y108 :: y109 :: y110 :: y111 :: y112 :: y113 :: y114 :: y115 :: y116 :: y117 :: y118 :: y119 :: y120 :: y121 :: y122 :: y123 :: y124 :: y125 :: y126 :: y127 :: y128 :: y129 :: y130 :: y131 :: []), defers := [] } w := by
  have c0 : w.cell? ⟨T, 5, none⟩ = some S.G := (cell_at h.t.at_ 5).trans rfl
  have z0 := free_at h.t.at_ 5
  have c2 : w.cell? ⟨S.tb x, 1, none⟩ = some (.int .u64 ((x : Int) + 1)) := (cell_at (h.x.at_ x hx) 1).trans rfl
  have c1 : w.cell? ⟨i, 1, none⟩ = some (.int .u64 (S.wn i)) := (cell_at (h.i.at_ i hi) 1).trans rfl
  have lx := hlt h.t.at_
  have lx2 := hlt (h.x.at_ x hx)
  have li := hlt (h.i.at_ i hi)
  obtain ⟨va, vc, hv⟩ := sl_shape h.g.own
  have how := h.g.own
  have HN : Hid (∀ k, S.G.ownBlock = some k → k ≠ T) := fun k hk => by
    obtain ⟨cs, hc⟩ := own_tag how hk
    exact tag_ne hc h.t.at_ (by decide)
  have HP : Hid (∀ v' w3 wx, w3.ownsRow N 150 2 v' (S.gl.length + 1) (S.gl.flatMap ignC ++ [.int .u64 ((x : Int) + 1), .int .u64 (S.wn i)]) → (w.alloc (.cells #[.int .u64 ((x : Int) + 1), .int .u64 (S.wn i)] 150)).grownBy w3 S.G.ownBlock → (v'.ownBlock = S.G.ownBlock ∨ v'.ownBlock = some (w.alloc (.cells #[.int .u64 ((x : Int) + 1), .int .u64 (S.wn i)] 150)).heap.size) → wx.heap = (w3.setCell ⟨T, 5, none⟩ v').heap → wx.os = w3.os → wx.tape = w3.tape → wx.output = w3.output → Rel N D T wx { S with G := v', gl := S.gl ++ [((x : Int) + 1, S.wn i)] } ∧ Fr N D w wx) := by
    intro v' w3 wx h1 h2 h3 e0 e1 e2 e3
    rw [ign_append] at h1
    obtain ⟨g1, g2⟩ := (h.alloc (.cells #[.int .u64 ((x : Int) + 1), .int .u64 (S.wn i)] 150)).setG h2 (l' := S.gl ++ [((x : Int) + 1, S.wn i)]) (by simpa using h1) (or_snd h3 (fun e => ⟨_, e, Nat.le_refl _⟩))
    exact ⟨g1.heapEq e0, ((Fr.alloc h.low _).trans g2).heapEq e0 e1 e2 e3⟩
  have HW : Hid (w.ownsRow N 150 2 (.slice va S.gl.length vc) S.gl.length (S.gl.flatMap ignC)) := by rw [← hv]; exact how
  have hbase := h.lowN
  rw [hv] at HN HP c0
  have HK := hide hK
  clear hK how h hx hi hv
  generalize S.gl.length = m at *
  generalize S.gl.flatMap ignC = XS at *
  generalize S.tb x = B at *
  generalize S.wn i = u at *
  conv => arg 2; whnf
  refine wp_region_noPanic ?_
  go_region_law (refine step_append (base := N) (n := m) (v := .slice va m vc) (by rfl) (.tmp 56) (.tmp 66) 52 (by rfl) 150 _ 2 16 Yba.underlying52 info150 rfl (by decide) (by decide) (by rfl) (by rfl) [.int .u64 ((x : Int) + 1), .int .u64 u] rfl (by exact news2 _ rfl) (by simp [Value.oneCell']) (by exact HW.out.alloc _) (by omega) (by exact Nat.le_trans hbase (by simp)) ?_; intro v' w3 ho3 hg3 hl3; obtain ⟨va', vc', hv3⟩ := sl_shape ho3; subst hv3; have hg3' := grown_of_drew hg3; have hbk := (hg3'.block T (by simp; omega) (fun e => HN.out T e.symm rfl)).trans (Below.heap_alloc _ _ _ lx); have b9' := (World.cell?_of_block (w := w) (a := ⟨T, 5, none⟩) hbk).trans c0; have z9' := (World.frozen?_of_block (w := w) (a := ⟨T, 5, none⟩) hbk).trans z0; have HO3 := hide ho3; have HG3 := hide hg3'; have HL3 := hide hl3; clear ho3 hg3 hg3' hbk hl3)
  all_goals (have P := HP.out _ w3 _ HO3.out HG3.out HL3.out rfl rfl rfl rfl; exact HK.out _ _ _ _ _ _ _ _ _ _ _ _ _ _ _ _ _ _ (.slice va' (m + 1) vc') _ P.1 P.2)

end Go.Proofs.Ybulkaggi.CE

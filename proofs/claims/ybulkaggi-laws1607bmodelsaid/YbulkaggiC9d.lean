import Derived.Test.YbulkaggiC9a
namespace Go.Proofs.Ybulkaggi.CE
open Go.RowKit Go.WideMaps Go.Maps
set_option linter.unusedVariables false
set_option maxRecDepth 100000

set_option maxHeartbeats 2000000 in
theorem servD1 {N : Nat} {D : List Nat} {T : Nat} {w : World} {S : St} (h : Rel N D T w S) {x i : Nat} (hx : x ∈ S.hs) (hi : i ∈ S.its) (hd2 : decide ((x : Int) + 1 < S.wn i) = false) {y : Nat} (hw : S.wr i = some y) (hne : y ≠ x) (hy : y ∈ S.hs) (h64 : y ≠ 64) (hlen : (S.ql y).length ≤ 100000) :
    Calls Yba.prog 41 #[Pp T, Pp (S.tb x), .agg #[Pp i, .bool false]] w (ServPost N D T w S x i false) := by
  have V0 := SV.start h i false
  have HX := hide hx
  have HI := hide hi
  have HH := hide h
  obtain ⟨q1, q2, q3, q4, q5, q6, q7⟩ := V0.cells hx hi
  clear h hx hi
  go_enter Yba.func41, Yba.ntmps41
  go_upto_region 2 with fail
  generalize w.alloc (.cells #[Pp i, .bool false] 118) = X0 at *
  replace q4 : X0.cell? ⟨i, 2, none⟩ = some (Pp (S.tb y)) := by rw [q4, hw]; rfl
  go_upto_region 2 with fail
  go_quiet (fail)
  have V1 := V0.drewN nq
  clear q1 q2 q3 q4 q5 q6 q7
  generalize X0.drewN nq = X1 at V1 ⊢
  obtain ⟨q1, q2, q3, q4, q5, q6, q7⟩ := V1.cells HX.out HI.out
  replace q4 : X1.cell? ⟨i, 2, none⟩ = some (Pp (S.tb y)) := by rw [q4, hw]; rfl
  go_upto_region 4 with fail
  go_quiet (fail)
  have V2 := V1.drewN nq
  clear q1 q2 q3 q4 q5 q6 q7
  generalize X1.drewN nq = X2 at V2 ⊢
  obtain ⟨q1, q2, q3, q4, q5, q6, q7⟩ := V2.cells HX.out HI.out
  replace q4 : X2.cell? ⟨i, 2, none⟩ = some (Pp (S.tb y)) := by rw [q4, hw]; rfl
  go_upto_region 7 with fail
  go_quiet (fail)
  have V3 := V2.drewN nq
  clear q1 q2 q3 q4 q5 q6 q7
  generalize X2.drewN nq = X3 at V3 ⊢
  obtain ⟨q1, q2, q3, q4, q5, q6, q7⟩ := V3.cells HX.out HI.out
  replace q4 : X3.cell? ⟨i, 2, none⟩ = some (Pp (S.tb y)) := by rw [q4, hw]; rfl
  have r1 := ne_ptr_diff X3 (S.tb y) (S.tb x) (fun e => hne (V3.rel.x.inj y hy x HX.out e)) (V3.rel.x.at_ y hy) (V3.rel.x.at_ x HX.out)
  have r2 := ne_ptr_nil X3 (S.tb y)
  have q8 : X3.cell? ⟨S.tb x, 4, none⟩ = some _ := (cell_at (V3.rel.x.at_ x HX.out) 4)
  have z8 := free_at (V3.rel.x.at_ x HX.out) 4
  have l8 := hlt (V3.rel.x.at_ x HX.out)
  have l9 := V3.le
  go_upto_region 12 with fail
  obtain ⟨g1, g2⟩ := (V3.rel.alloc (.cells #[Pp i, .bool false] 118)).setWt HX.out (r := X3.heap.size) (i := i) (b := false) (heap_alloc_new X3 _) (not_new V3.rel.low (Nat.le_refl _))
  have g3 := (V3.fr.trans (Fr.alloc V3.rel.low _)).trans g2
  rw [World.setCell_alloc_past _ _ _ _ l8] at g1 g3
  clear g2
  generalize (X3.setCell ⟨S.tb x, 4, none⟩ (Pp X3.heap.size)).alloc (.cells #[Pp i, .bool false] 118) = Y at g1 g3 ⊢
  refine serv12 (S := { S with wt := upd S.wt x (some (X3.heap.size, i, false)) }) (x := x) (y := y) g1 hy HI.out h64 hw hlen ?_
  intro t98 t99 t100 t101 t102 t103 t104 t105 t106 t107 t108 t109 t110 t111 t112 t113 v wx g4 g5
  have g6 := g3.trans g5
  generalize X3.heap.size = r at *
  clear V0 V1 V2 V3 HH q1 q2 q3 q4 q5 q6 q7 q8 z8 r1 r2 g3 g5 g1
  go_wp2
  go_ret
  exact ⟨3, rfl, _, g4, g6, .waiting y r v hw hne rfl⟩

set_option maxHeartbeats 2000000 in
theorem servD2 {N : Nat} {D : List Nat} {T : Nat} {w : World} {S : St} (h : Rel N D T w S) {x i : Nat} (hx : x ∈ S.hs) (hi : i ∈ S.its) (hd1 : decide ((x : Int) + 1 < S.rd i) = false) (hd2 : decide ((x : Int) + 1 < S.wn i) = false) {y : Nat} (hw : S.wr i = some y) (hne : y ≠ x) (hy : y ∈ S.hs) (h64 : y ≠ 64) (hlen : (S.ql y).length ≤ 100000) :
    Calls Yba.prog 41 #[Pp T, Pp (S.tb x), .agg #[Pp i, .bool true]] w (ServPost N D T w S x i true) := by
  have V0 := SV.start h i true
  have HX := hide hx
  have HI := hide hi
  have HH := hide h
  obtain ⟨q1, q2, q3, q4, q5, q6, q7⟩ := V0.cells hx hi
  clear h hx hi
  go_enter Yba.func41, Yba.ntmps41
  go_upto_region 2 with fail
  generalize w.alloc (.cells #[Pp i, .bool true] 118) = X0 at *
  replace q4 : X0.cell? ⟨i, 2, none⟩ = some (Pp (S.tb y)) := by rw [q4, hw]; rfl
  go_upto_region 2 with fail
  go_quiet (fail)
  have V1 := V0.drewN nq
  clear q1 q2 q3 q4 q5 q6 q7
  generalize X0.drewN nq = X1 at V1 ⊢
  obtain ⟨q1, q2, q3, q4, q5, q6, q7⟩ := V1.cells HX.out HI.out
  replace q4 : X1.cell? ⟨i, 2, none⟩ = some (Pp (S.tb y)) := by rw [q4, hw]; rfl
  go_upto_region 4 with fail
  go_quiet (fail)
  have V2 := V1.drewN nq
  clear q1 q2 q3 q4 q5 q6 q7
  generalize X1.drewN nq = X2 at V2 ⊢
  obtain ⟨q1, q2, q3, q4, q5, q6, q7⟩ := V2.cells HX.out HI.out
  replace q4 : X2.cell? ⟨i, 2, none⟩ = some (Pp (S.tb y)) := by rw [q4, hw]; rfl
  go_upto_region 7 with fail
  go_quiet (fail)
  have V3 := V2.drewN nq
  clear q1 q2 q3 q4 q5 q6 q7
  generalize X2.drewN nq = X3 at V3 ⊢
  obtain ⟨q1, q2, q3, q4, q5, q6, q7⟩ := V3.cells HX.out HI.out
  replace q4 : X3.cell? ⟨i, 2, none⟩ = some (Pp (S.tb y)) := by rw [q4, hw]; rfl
  have r1 := ne_ptr_diff X3 (S.tb y) (S.tb x) (fun e => hne (V3.rel.x.inj y hy x HX.out e)) (V3.rel.x.at_ y hy) (V3.rel.x.at_ x HX.out)
  have r2 := ne_ptr_nil X3 (S.tb y)
  have q8 : X3.cell? ⟨S.tb x, 4, none⟩ = some _ := (cell_at (V3.rel.x.at_ x HX.out) 4)
  have z8 := free_at (V3.rel.x.at_ x HX.out) 4
  have l8 := hlt (V3.rel.x.at_ x HX.out)
  have l9 := V3.le
  go_upto_region 12 with fail
  obtain ⟨g1, g2⟩ := (V3.rel.alloc (.cells #[Pp i, .bool true] 118)).setWt HX.out (r := X3.heap.size) (i := i) (b := true) (heap_alloc_new X3 _) (not_new V3.rel.low (Nat.le_refl _))
  have g3 := (V3.fr.trans (Fr.alloc V3.rel.low _)).trans g2
  rw [World.setCell_alloc_past _ _ _ _ l8] at g1 g3
  clear g2
  generalize (X3.setCell ⟨S.tb x, 4, none⟩ (Pp X3.heap.size)).alloc (.cells #[Pp i, .bool true] 118) = Y at g1 g3 ⊢
  refine serv12 (S := { S with wt := upd S.wt x (some (X3.heap.size, i, true)) }) (x := x) (y := y) g1 hy HI.out h64 hw hlen ?_
  intro t98 t99 t100 t101 t102 t103 t104 t105 t106 t107 t108 t109 t110 t111 t112 t113 v wx g4 g5
  have g6 := g3.trans g5
  generalize X3.heap.size = r at *
  clear V0 V1 V2 V3 HH q1 q2 q3 q4 q5 q6 q7 q8 z8 r1 r2 g3 g5 g1
  go_wp2
  go_ret
  exact ⟨3, rfl, _, g4, g6, .waiting y r v hw hne rfl⟩

end Go.Proofs.Ybulkaggi.CE

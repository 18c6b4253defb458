import Derived.Test.YbulkaggiC9a
namespace Go.Proofs.Ybulkaggi.CE
open Go.RowKit Go.WideMaps Go.Maps
set_option linter.unusedVariables false
set_option maxRecDepth 100000

set_option maxHeartbeats 2000000 in
theorem servF0 {N : Nat} {D : List Nat} {T : Nat} {w : World} {S : St} (h : Rel N D T w S) {x i : Nat} (hx : x ∈ S.hs) (hi : i ∈ S.its) (hd1 : decide ((x : Int) + 1 < S.rd i) = false) (hd2 : decide ((x : Int) + 1 < S.wn i) = false) (hw : S.wr i = none) (hwr : ∀ y, S.wr i = some y → y ∈ S.hs) (hlen : (S.wl x).length ≤ 100000) :
    Calls Yba.prog 41 #[Pp T, Pp (S.tb x), .agg #[Pp i, .bool true]] w (ServPost N D T w S x i true) := by
  have V0 := SV.start h i true
  have HX := hide hx
  have HI := hide hi
  have HH := hide h
  obtain ⟨q1, q2, q3, q4, q5, q6, q7⟩ := V0.cells hx hi
  clear h hx hi
  go_enter Yba.func41, Yba.ntmps41
  go_upto_region 2 with fail
  generalize w.alloc (.cells #[Pp i, .bool true] 118) = X0 at *
  replace q4 : X0.cell? ⟨i, 2, none⟩ = some (.pointer none) := by rw [q4, hw]; rfl
  go_upto_region 2 with fail
  go_quiet (fail)
  have V1 := V0.drewN nq
  clear q1 q2 q3 q4 q5 q6 q7
  generalize X0.drewN nq = X1 at V1 ⊢
  obtain ⟨q1, q2, q3, q4, q5, q6, q7⟩ := V1.cells HX.out HI.out
  replace q4 : X1.cell? ⟨i, 2, none⟩ = some (.pointer none) := by rw [q4, hw]; rfl
  go_upto_region 4 with fail
  go_quiet (fail)
  have V2 := V1.drewN nq
  clear q1 q2 q3 q4 q5 q6 q7
  generalize X1.drewN nq = X2 at V2 ⊢
  obtain ⟨q1, q2, q3, q4, q5, q6, q7⟩ := V2.cells HX.out HI.out
  replace q4 : X2.cell? ⟨i, 2, none⟩ = some (.pointer none) := by rw [q4, hw]; rfl
  go_upto_region 7 with fail
  go_quiet (fail)
  have V3 := V2.drewN nq
  clear q1 q2 q3 q4 q5 q6 q7
  generalize X2.drewN nq = X3 at V3 ⊢
  obtain ⟨q1, q2, q3, q4, q5, q6, q7⟩ := V3.cells HX.out HI.out
  replace q4 : X3.cell? ⟨i, 2, none⟩ = some (.pointer none) := by rw [q4, hw]; rfl
  have C := hide (write_any V3.rel HX.out HI.out hwr hlen)
  have hfr := V3.fr
  go_upto_region 18 with fail
  refine C.out.mono ?_
  rintro e X9 ⟨rfl, S', g1, g2, g3⟩
  have g4 := hfr.trans g2
  clear V0 V1 V2 V3 HH q1 q2 q3 q4 q5 q6 q7 C hfr
  go_wp2
  go_ret
  exact ⟨1, rfl, S', g1, g4, .write (.inl hw) g3⟩

set_option maxHeartbeats 2000000 in
theorem servF1 {N : Nat} {D : List Nat} {T : Nat} {w : World} {S : St} (h : Rel N D T w S) {x i : Nat} (hx : x ∈ S.hs) (hi : i ∈ S.its) (hd1 : decide ((x : Int) + 1 < S.rd i) = false) (hd2 : decide ((x : Int) + 1 < S.wn i) = false) (hw : S.wr i = some x) (hwr : ∀ y, S.wr i = some y → y ∈ S.hs) (hlen : (S.wl x).length ≤ 100000) :
    Calls Yba.prog 41 #[Pp T, Pp (S.tb x), .agg #[Pp i, .bool true]] w (ServPost N D T w S x i true) := by
  have V0 := SV.start h i true
  have HX := hide hx
  have HI := hide hi
  have HH := hide h
  obtain ⟨q1, q2, q3, q4, q5, q6, q7⟩ := V0.cells hx hi
  clear h hx hi
  go_enter Yba.func41, Yba.ntmps41
  go_upto_region 2 with fail
  generalize w.alloc (.cells #[Pp i, .bool true] 118) = X0 at *
  replace q4 : X0.cell? ⟨i, 2, none⟩ = some (Pp (S.tb x)) := by rw [q4, hw]; rfl
  go_upto_region 2 with fail
  go_quiet (fail)
  have V1 := V0.drewN nq
  clear q1 q2 q3 q4 q5 q6 q7
  generalize X0.drewN nq = X1 at V1 ⊢
  obtain ⟨q1, q2, q3, q4, q5, q6, q7⟩ := V1.cells HX.out HI.out
  replace q4 : X1.cell? ⟨i, 2, none⟩ = some (Pp (S.tb x)) := by rw [q4, hw]; rfl
  go_upto_region 4 with fail
  go_quiet (fail)
  have V2 := V1.drewN nq
  clear q1 q2 q3 q4 q5 q6 q7
  generalize X1.drewN nq = X2 at V2 ⊢
  obtain ⟨q1, q2, q3, q4, q5, q6, q7⟩ := V2.cells HX.out HI.out
  replace q4 : X2.cell? ⟨i, 2, none⟩ = some (Pp (S.tb x)) := by rw [q4, hw]; rfl
  go_upto_region 7 with fail
  go_quiet (fail)
  have V3 := V2.drewN nq
  clear q1 q2 q3 q4 q5 q6 q7
  generalize X2.drewN nq = X3 at V3 ⊢
  obtain ⟨q1, q2, q3, q4, q5, q6, q7⟩ := V3.cells HX.out HI.out
  replace q4 : X3.cell? ⟨i, 2, none⟩ = some (Pp (S.tb x)) := by rw [q4, hw]; rfl
  have r1 := ne_ptr_same X3 (S.tb x)
  have r2 := ne_ptr_nil X3 (S.tb x)
  have C := hide (write_any V3.rel HX.out HI.out hwr hlen)
  have hfr := V3.fr
  go_upto_region 18 with fail
  refine C.out.mono ?_
  rintro e X9 ⟨rfl, S', g1, g2, g3⟩
  have g4 := hfr.trans g2
  clear V0 V1 V2 V3 HH q1 q2 q3 q4 q5 q6 q7 C hfr
  go_wp2
  go_ret
  exact ⟨1, rfl, S', g1, g4, .write (.inr hw) g3⟩

end Go.Proofs.Ybulkaggi.CE

import Derived.Test.YbulkaggiCg
namespace Go.Proofs.Ybulkaggi.CE
open Go.RowKit Go.WideMaps Go.Maps
set_option linter.unusedVariables false
set_option maxRecDepth 100000

set_option maxHeartbeats 2000000 in
theorem end18 {QQ : Exit → Act → World → Prop} {N : Nat} {D : List Nat} {T R n k z i bx c B : Nat} {b : Bool} {u0 u1 : Value} {w : World} {S : St} {y1 y2 y3 y4 y5 y6 y7 y8 y9 y14 y15 y16 y17 y18 y19 y20 y21 y22 y23 y24 y25 y26 y27 y28 y29 y30 y31 y32 y33 y34 y35 y36 y37 y38 y39 y40 y41 y42 y43 y44 y45 y46 y47 y48 y49 y50 y51 y52 y53 y54 y55 y56 y57 y58 y59 y60 y61 y62 y63 y64 y65 y66 y67 y68 y69 y70 y71 y72 y73 y74 y75 y76 y77 y78 y79 y80 y81 y82 y83 y84 y85 y86 y87 y88 y89 y90 y91 y92 y93 y94 y95 y96 y97 y98 y99 y100 y101 y102 y103 y104 y105 y106 y107 y108 y109 y110 y111 y112 y113 y114 y115 y116 y117 y118 y119 y120 y121 y122 y123 y124 : Value} (h : Rel N D T w S) (I : Inv c S) (hc : c ≤ 100000) (hz : z ∈ S.hs) (hi : i ∈ S.its) (hkn : k < n) (hn : n ≤ 64) (dR : R ∈ D) (dx : bx ∈ D) (nx : R ≠ bx) (hB : S.tb z = B)
    (b0 : w.cell? ⟨bx, 0, none⟩ = some (Pp i)) (b1 : w.cell? ⟨bx, 1, none⟩ = some (.bool b)) (r0 : w.cell? ⟨R, k * 2, none⟩ = some u0) (r1 : w.cell? ⟨R, k * 2 + 1, none⟩ = some u1) (rf : ∀ j, w.frozen? ⟨R, j, none⟩ = false)
    (hK : ∀ (t79 t80 t81 t82 t83 t84 t85 t86 t87 t88 t89 t90 : Value) (w' : World) (S' : St) (st : Nat), Rel N D T w' S' → Fr N D w w' → SStep S S' z i b st → QQ .normal { tmps := List.toArray ((Pp T) :: y1 :: y2 :: y3 :: y4 :: y5 :: y6 :: y7 :: y8 :: y9 :: (.slice (some ⟨R, 0, none⟩) n n) :: (.int .i64 (k : Int)) :: (Pp B) :: (Pp bx) :: y14 :: y15 :: y16 :: y17 :: y18 :: y19 :: y20 :: y21 :: y22 :: y23 :: y24 :: y25 :: y26 :: y27 :: y28 :: y29 :: y30 :: y31 :: y32 :: y33 :: y34 :: y35 :: y36 :: y37 :: y38 :: y39 :: y40 :: y41 :: y42 :: y43 :: y44 :: y45 :: y46 :: y47 :: y48 :: y49 :: y50 :: y51 :: y52 :: y53 :: y54 :: y55 :: y56 :: y57 :: y58 :: y59 :: y60 :: y61 :: y62 :: y63 :: y64 :: y65 :: y66 :: y67 :: y68 :: y69 :: y70 :: y71 :: y72 :: y73 :: y74 :: y75 :: y76 :: y77 :: y78 :: (t79) :: (t80) :: (t81) :: (t82) :: (t83) :: (t84) :: (t85) :: (t86) :: (t87) :: (t88) :: (t89) :: (t90) :: y91 :: y92 :: y93 :: y94 :: y95 :: y96 :: y97 :: y98 :: y99 :: y100 :: y101 :: y102 :: y103 :: y104 :: y105 :: y106 :: y107 :: y108 :: y109 :: y110 :: y111 :: y112 :: y113 :: y114 :: y115 :: y116 :: y117 :: y118 :: y119 :: y120 :: y121 :: y122 :: y123 :: y124 :: []), defers := [] } ((w'.setCell ⟨R, k * 2, none⟩ (.int .i64 (z : Int))).setCell ⟨R, k * 2 + 1, none⟩ (.int .u8 (st : Int)))) :
    Code.wp Yba.prog (rgOf Yba.f43.body 18) QQ { tmps := List.toArray ((Pp T) :: y1 :: y2 :: y3 :: y4 :: y5 :: y6 :: y7 :: y8 :: y9 :: (.slice (some ⟨R, 0, none⟩) n n) :: (.int .i64 (k : Int)) :: (Pp B) :: (Pp bx) :: y14 :: y15 :: y16 :: y17 :: y18 :: y19 :: y20 :: y21 :: y22 :: y23 :: y24 :: y25 :: y26 :: y27 :: y28 :: y29 :: y30 :: y31 :: y32 :: y33 :: y34 :: y35 :: y36 :: y37 :: y38 :: y39 :: y40 :: y41 :: y42 :: y43 :: y44 :: y45 :: y46 :: y47 :: y48 :: y49 :: y50 :: y51 :: y52 :: y53 :: y54 :: y55 :: y56 :: y57 :: y58 :: y59 :: y60 :: y61 :: y62 :: y63 :: y64 :: y65 :: y66 :: y67 :: y68 :: y69 :: y70 :: y71 :: y72 :: y73 :: y74 :: y75 :: y76 :: y77 :: y78 :: y79 :: y80 :: y81 :: y82 :: y83 :: y84 :: y85 :: y86 :: y87 :: y88 :: y89 :: y90 :: y91 :: y92 :: y93 :: y94 :: y95 :: y96 :: y97 :: y98 :: y99 :: y100 :: y101 :: y102 :: y103 :: y104 :: y105 :: y106 :: y107 :: y108 :: y109 :: y110 :: y111 :: y112 :: y113 :: y114 :: y115 :: y116 :: y117 :: y118 :: y119 :: y120 :: y121 :: y122 :: y123 :: y124 :: []), defers := [] } w := by
  have SC := hide (service_any (b := b) h.drew hz hi (fun y e => (I.w1 i hi y e).1) I.no64 (Nat.le_trans (I.cw z hz) hc) (Nat.le_trans I.cg hc) (fun y hy => Nat.le_trans (I.qlen hy) (by omega)))
  have c0 : w.cell? ⟨S.tb z, 0, none⟩ = some (.int .i64 (z : Int)) := (cell_at (h.x.at_ z hz) 0).trans rfl
  have HF : Hid (∀ w' S' st, Rel N D T w' S' → Fr N D w.drew w' → SStep S S' z i b st → w'.cell? ⟨S.tb z, 0, none⟩ = some (.int .i64 (z : Int)) ∧ w'.cell? ⟨bx, 0, none⟩ = some (Pp i) ∧ w'.cell? ⟨bx, 1, none⟩ = some (.bool b) ∧ w'.cell? ⟨R, k * 2, none⟩ = some u0 ∧ w'.cell? ⟨R, k * 2 + 1, none⟩ = some u1 ∧ w'.frozen? ⟨R, k * 2, none⟩ = false ∧ w'.frozen? ⟨R, k * 2 + 1, none⟩ = false) := fun w' S' st g1 g2 g3 => by
    have V := g3.served I hz hi
    have hz' : z ∈ S'.hs := by rw [V.hs]; exact hz
    have eR : w'.heap[R]? = w.heap[R]? := g2.block R (.inr dR)
    have ex : w'.heap[bx]? = w.heap[bx]? := g2.block bx (.inr dx)
    refine ⟨?_, (World.cell?_of_block ex).trans b0, (World.cell?_of_block ex).trans b1, (World.cell?_of_block eR).trans r0, (World.cell?_of_block eR).trans r1, (World.frozen?_of_block eR).trans (rf _), (World.frozen?_of_block eR).trans (rf _)⟩
    rw [← V.tb]
    exact (cell_at (g1.x.at_ z hz') 0).trans rfl
  have HK := hide hK
  have nB : R ≠ S.tb z := fun e => h.x.ok z hz (.inr (e ▸ dR))
  have nB' := nB.symm
  have nx' := nx.symm
  have f0 := rf (k * 2)
  have f1 := rf (k * 2 + 1)
  clear hK rf h I hz hi dR dx
  rw [hB] at SC c0 HF nB nB'
  clear hB
  conv => arg 2; whnf
  refine wp_region_noPanic ?_
  go_region_held3 (fun x => x.cell? ⟨B, 0, none⟩ = some (.int .i64 (z : Int)) ∧ x.cell? ⟨bx, 0, none⟩ = some (Pp i) ∧ x.cell? ⟨bx, 1, none⟩ = some (.bool b)) (go_keep) ((go_at_call 41; refine SC.out.mono ?_; rintro e w1 ⟨st, rfl, S', g1, g2, g3⟩; obtain ⟨v0, v1, v2, v3, v4, v5, v6⟩ := HF.out w1 S' st g1 g2 g3; have HX := hide (And.intro g1 (And.intro g2 g3)); clear g1 g2 g3))
  all_goals exact HK.out _ _ _ _ _ _ _ _ _ _ _ _ w1 S' st HX.out.1 ⟨HX.out.2.1.os, HX.out.2.1.tape, HX.out.2.1.output, HX.out.2.1.size, HX.out.2.1.block⟩ HX.out.2.2

end Go.Proofs.Ybulkaggi.CE

import Derived.Test.YbulkaggiC7
namespace Go.Proofs.Ybulkaggi.CE
open Go.RowKit Go.WideMaps Go.Maps
set_option linter.unusedVariables false
set_option maxRecDepth 100000

set_option maxHeartbeats 2000000 in
theorem serv15 {K : Act → World → Prop} {Q : Exit → Act → World → Prop} {N : Nat} {D : List Nat} {T x i : Nat} {w : World} {S : St} {y0 y2 y3 y4 y5 y6 y8 y9 y10 y11 y12 y13 y14 y15 y16 y17 y18 y19 y20 y21 y22 y23 y24 y25 y26 y27 y28 y29 y30 y31 y32 y33 y34 y35 y36 y37 y38 y39 y40 y41 y42 y43 y44 y45 y46 y47 y48 y49 y50 y51 y52 y53 y54 y55 y56 y57 y58 y59 y60 y61 y62 y63 y64 y65 y66 y67 y68 y69 y70 y71 y72 y73 y74 y75 y76 y77 y78 y79 y80 y81 y82 y83 y84 y85 y86 y87 y88 y89 y90 y91 y92 y93 y94 y95 y96 y97 y98 y99 y100 y101 y102 y103 y104 y105 y106 y107 y108 y109 y110 y111 y112 y113 y114 y115 y116 y117 y118 y119 y120 y121 y122 y123 y124 y125 y126 y127 y128 y129 y130 y131 : Value} (h : Rel N D T w S) (hx : x ∈ S.hs) (hi : i ∈ S.its)
    (hK : ∀ (t117 t118 t119 t120 t121 t122 t123 t124 t125 t127 t128 : Value) (n : Int) (wx : World), Rel N D T wx { S with rd := upd S.rd i n } → Fr N D w wx → K { tmps := List.toArray (y0 :: (Pp (S.tb x)) :: y2 :: y3 :: y4 :: y5 :: y6 :: (Pp i) :: y8 :: y9 :: y10 :: y11 :: y12 :: y13 :: y14 :: y15 :: y16 :: y17 :: y18 :: y19 :: y20 :: y21 :: y22 :: y23 :: y24 :: y25 :: y26 :: y27 :: y28 :: y29 :: y30 :: y31 :: y32 :: y33 :: y34 :: y35 :: y36 :: y37 :: y38 :: y39 :: y40 :: y41 :: y42 :: y43 :: y44 :: y45 :: y46 :: y47 :: y48 :: y49 :: y50 :: y51 :: y52 :: y53 :: y54 :: y55 :: y56 :: y57 :: y58 :: y59 :: y60 :: y61 :: y62 :: y63 :: y64 :: y65 :: y66 :: y67 :: y68 :: y69 :: y70 :: y71 :: y72 :: y73 :: y74 :: y75 :: y76 :: y77 :: y78 :: y79 :: y80 :: y81 :: y82 :: y83 :: y84 :: y85 :: y86 :: y87 :: y88 :: y89 :: y90 :: y91 :: y92 :: y93 :: y94 :: y95 :: y96 :: y97 :: y98 :: y99 :: y100 :: y101 :: y102 :: y103 :: y104 :: y105 :: y106 :: y107 :: y108 :: y109 :: y110 :: y111 :: y112 :: y113 :: y114 :: y115 :: y116 :: (t117) :: (t118) :: (t119) :: (t120) :: (t121) :: (t122) :: (t123) :: (t124) :: (t125) :: (.int .u64 n) :: (t127) :: (t128) :: y129 :: y130 :: y131 :: []), defers := [] } wx) :
    Code.wp Yba.prog (rgOf Yba.f41.body 15) (Exit.then K Q) { tmps := List.toArray (y0 :: (Pp (S.tb x)) :: y2 :: y3 :: y4 :: y5 :: y6 :: (Pp i) :: y8 :: y9 :: y10 :: y11 :: y12 :: y13 :: y14 :: y15 :: y16 :: y17 :: y18 :: y19 :: y20 :: y21 :: y22 :: y23 :: y24 :: y25 :: y26 :: y27 :: y28 :: y29 :: y30 :: y31 :: y32 :: y33 :: y34 :: y35 :: y36 :: y37 :: y38 :: y39 :: y40 :: y41 :: y42 :: y43 :: y44 :: y45 :: y46 :: y47 :: y48 :: y49 :: y50 :: y51 :: y52 :: y53 :: y54 :: y55 :: y56 :: y57 :: y58 :: y59 :: y60 :: y61 :: y62 :: y63 :: y64 :: y65 :: y66 :: y67 :: y68 :: y69 :: y70 :: y71 :: y72 :: y73 :: y74 :: y75 :: y76 :: y77 :: y78 :: y79 :: y80 :: y81 :: y82 :: y83 :: y84 :: y85 :: y86 :: y87 :: y88 :: y89 :: y90 :: y91 :: y92 :: y93 :: y94 :: y95 :: y96 :: y97 :: y98 :: y99 :: y100 :: y101 :: y102 :: y103 :: y104 :: y105 :: y106 :: y107 :: y108 :: y109 :: y110 :: y111 :: y112 :: y113 :: y114 :: y115 :: y116 :: y117 :: y118 :: y119 :: y120 :: y121 :: y122 :: y123 :: y124 :: y125 :: y126 :: y127 :: y128 :: y129 :: y130 :: y131 :: []), defers := [] } w := by
  have c0 : w.cell? ⟨S.tb x, 1, none⟩ = some (.int .u64 ((x : Int) + 1)) := (cell_at (h.x.at_ x hx) 1).trans rfl
  have c1 : w.cell? ⟨i, 0, none⟩ = some (.int .u64 (S.rd i)) := (cell_at (h.i.at_ i hi) 0).trans rfl
  have z1 := free_at (h.i.at_ i hi) 0
  have HP : Hid (∀ (n : Int) (wx : World), wx.heap = (w.setCell ⟨i, 0, none⟩ (.int .u64 n)).heap → wx.os = w.os → wx.tape = w.tape → wx.output = w.output → Rel N D T wx { S with rd := upd S.rd i n } ∧ Fr N D w wx) := by
    intro n wx e0 e1 e2 e3
    obtain ⟨g1, g2⟩ := h.setRd hi n
    exact ⟨g1.heapEq e0, g2.heapEq e0 e1 e2 e3⟩
  have HK := hide hK
  clear hK h hx hi
  generalize S.tb x = B at *
  generalize S.rd i = u at *
  conv => arg 2; whnf
  go_region
  all_goals (refine HK.out _ _ _ _ _ _ _ _ _ _ _ _ _ ?_ ?_; exact (HP.out _ _ (by rfl) (by rfl) (by rfl) (by rfl)).1; exact (HP.out (if u < (x : Int) + 1 then (x : Int) + 1 else u) _ (by rfl) (by rfl) (by rfl) (by rfl)).2)

end Go.Proofs.Ybulkaggi.CE

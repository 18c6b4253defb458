import Derived.Test.YbulkaggiCp
namespace Go.Proofs.Ybulkaggi.CE
open Go.RowKit Go.WideMaps Go.Maps
set_option linter.unusedVariables false
set_option maxRecDepth 100000

set_option maxHeartbeats 2000000 in
theorem law22 {QQ : Exit → Act → World → Prop} {N : Nat} {E D : List Nat} {T nb X x o pb j c : Nat} {b : Bool} {w : World} {S : St} {y0 y1 y2 y3 y4 y7 y8 y9 y10 y13 y14 y15 y16 y17 y18 y19 y20 y21 y22 y23 y24 y25 y26 y27 y28 y29 y30 y31 y32 y33 y34 y35 y36 y37 y38 y39 y40 y41 y42 y43 y44 y45 y46 y47 y48 y49 y50 y51 y52 y53 y54 y55 y56 y57 y58 y59 y60 y61 y62 y63 y64 y65 y66 y67 y68 y69 y70 y71 y72 y73 y74 y75 y76 y77 y78 y79 y80 y81 y82 y83 y84 y85 y86 y87 y88 y89 y90 y91 y92 y93 y94 y95 y96 y97 y98 y99 y100 y101 y102 y103 y104 y105 y106 y107 y108 y109 y110 y111 y112 y113 y114 y115 y116 y117 y118 y119 y120 y121 y122 y123 y124 y125 y126 y127 y128 y129 y130 y131 y132 y133 y134 y135 y136 y137 y138 y139 y140 y141 y142 y143 y144 y145 y146 y147 : Value}
    (C : Calls Yba.prog 19 #[Pp T, .int .i64 (x : Int), .string (nm j), .bool b] w.drew (AskPost N E D T w.drew S c)) (dX : X ∈ E) (dn : nb ∈ E) (lo : o < 256) (lpb : pb < 256) (hj : pb % 3 = j) (hb : (((o : Int) % 4) == 2) = b)
    (q0 : w.cell? ⟨X, 0, none⟩ = some (.int .u8 (o : Int))) (q2 : w.cell? ⟨X, 2, none⟩ = some (.int .u8 (pb : Int))) (q4 : w.cell? ⟨nb, j, none⟩ = some (.string (nm j)))
    (hK : ∀ (t81 t82 t83 t84 t85 t86 t87 t88 t89 t90 t91 t92 t93 : Value) (w' : World) (st : Nat), (1 ≤ st ∧ st ≤ 4) → (∃ D1 S1, AskRes N E D T w.drew S c w' D1 S1) → QQ .normal { tmps := List.toArray (y0 :: y1 :: y2 :: y3 :: y4 :: (Pp T) :: (Pp nb) :: y7 :: y8 :: y9 :: y10 :: (Pp X) :: (.int .i64 (x : Int)) :: (.int .u8 (st : Int)) :: y14 :: y15 :: y16 :: y17 :: y18 :: y19 :: y20 :: y21 :: y22 :: y23 :: y24 :: y25 :: y26 :: y27 :: y28 :: y29 :: y30 :: y31 :: y32 :: y33 :: y34 :: y35 :: y36 :: y37 :: y38 :: y39 :: y40 :: y41 :: y42 :: y43 :: y44 :: y45 :: y46 :: y47 :: y48 :: y49 :: y50 :: y51 :: y52 :: y53 :: y54 :: y55 :: y56 :: y57 :: y58 :: y59 :: y60 :: y61 :: y62 :: y63 :: y64 :: y65 :: y66 :: y67 :: y68 :: y69 :: y70 :: y71 :: y72 :: y73 :: y74 :: y75 :: y76 :: y77 :: y78 :: y79 :: y80 :: (t81) :: (t82) :: (t83) :: (t84) :: (t85) :: (t86) :: (t87) :: (t88) :: (t89) :: (t90) :: (t91) :: (t92) :: (t93) :: y94 :: y95 :: y96 :: y97 :: y98 :: y99 :: y100 :: y101 :: y102 :: y103 :: y104 :: y105 :: y106 :: y107 :: y108 :: y109 :: y110 :: y111 :: y112 :: y113 :: y114 :: y115 :: y116 :: y117 :: y118 :: y119 :: y120 :: y121 :: y122 :: y123 :: y124 :: y125 :: y126 :: y127 :: y128 :: y129 :: y130 :: y131 :: y132 :: y133 :: y134 :: y135 :: y136 :: y137 :: y138 :: y139 :: y140 :: y141 :: y142 :: y143 :: y144 :: y145 :: y146 :: y147 :: []), defers := [] } w') :
    Code.wp Yba.prog (rgOf Yba.f6.body 22) QQ { tmps := List.toArray (y0 :: y1 :: y2 :: y3 :: y4 :: (Pp T) :: (Pp nb) :: y7 :: y8 :: y9 :: y10 :: (Pp X) :: (.int .i64 (x : Int)) :: y13 :: y14 :: y15 :: y16 :: y17 :: y18 :: y19 :: y20 :: y21 :: y22 :: y23 :: y24 :: y25 :: y26 :: y27 :: y28 :: y29 :: y30 :: y31 :: y32 :: y33 :: y34 :: y35 :: y36 :: y37 :: y38 :: y39 :: y40 :: y41 :: y42 :: y43 :: y44 :: y45 :: y46 :: y47 :: y48 :: y49 :: y50 :: y51 :: y52 :: y53 :: y54 :: y55 :: y56 :: y57 :: y58 :: y59 :: y60 :: y61 :: y62 :: y63 :: y64 :: y65 :: y66 :: y67 :: y68 :: y69 :: y70 :: y71 :: y72 :: y73 :: y74 :: y75 :: y76 :: y77 :: y78 :: y79 :: y80 :: y81 :: y82 :: y83 :: y84 :: y85 :: y86 :: y87 :: y88 :: y89 :: y90 :: y91 :: y92 :: y93 :: y94 :: y95 :: y96 :: y97 :: y98 :: y99 :: y100 :: y101 :: y102 :: y103 :: y104 :: y105 :: y106 :: y107 :: y108 :: y109 :: y110 :: y111 :: y112 :: y113 :: y114 :: y115 :: y116 :: y117 :: y118 :: y119 :: y120 :: y121 :: y122 :: y123 :: y124 :: y125 :: y126 :: y127 :: y128 :: y129 :: y130 :: y131 :: y132 :: y133 :: y134 :: y135 :: y136 :: y137 :: y138 :: y139 :: y140 :: y141 :: y142 :: y143 :: y144 :: y145 :: y146 :: y147 :: []), defers := [] } w := by
  have HK := hide hK
  have HF : Hid (∀ w1 D1 S1, AskRes N E D T w.drew S c w1 D1 S1 → w1.cell? ⟨X, 0, none⟩ = some (.int .u8 (o : Int)) ∧ w1.cell? ⟨X, 2, none⟩ = some (.int .u8 (pb : Int)) ∧ w1.cell? ⟨nb, j, none⟩ = some (.string (nm j))) := fun w1 D1 S1 r => by
    have e1 : w1.heap[X]? = w.heap[X]? := r.fr.block X (.inr dX)
    have e2 : w1.heap[nb]? = w.heap[nb]? := r.fr.block nb (.inr dn)
    exact ⟨(World.cell?_of_block e1).trans q0, (World.cell?_of_block e1).trans q2, (World.cell?_of_block e2).trans q4⟩
  clear dX dn
  have CC := hide C
  clear hK C
  have j3 : j < 3 := by omega
  have j3' : (j : Int) < 3 := by omega
  have j0 : (0 : Int) ≤ (j : Int) := by omega
  have h4 : (pb : Int).tmod 3 = (j : Int) := by rw [← hj]; rfl
  have h5 : (pb : Int) % 3 = (j : Int) := by rw [← hj]; rfl
  have h2 : wrap64 (pb : Int) = (pb : Int) := IntWalk.wrap64_in _ (by omega)
  have h1 : IntKind.i64.wrap (pb : Int) = (pb : Int) := (IntWalk.i64_left _).trans h2
  have h8 : wrap64 (j : Int) = (j : Int) := IntWalk.wrap64_in _ (by omega)
  have h9 : IntKind.i64.wrap (j : Int) = (j : Int) := (IntWalk.i64_left _).trans h8
  have hb2 : ((o : Int).tmod 4 == 2) = b := by rw [← hb, Int.tmod_eq_emod_of_nonneg (by omega)]
  clear hj
  conv => arg 2; whnf
  refine wp_region_noPanic ?_
  go_region_held3 (fun y => y.cell? ⟨X, 0, none⟩ = some (.int .u8 (o : Int)) ∧ y.cell? ⟨X, 2, none⟩ = some (.int .u8 (pb : Int)) ∧ y.cell? ⟨nb, j, none⟩ = some (.string (nm j))) (go_keep) ((go_at_call 19; refine CC.out.mono ?_; rintro e w1 ⟨st, rfl, hst, D1, S1, r⟩; obtain ⟨v0, v2, v4⟩ := HF.out w1 D1 S1 r; have R := hide (And.intro hst r); clear hst r))
  all_goals exact HK.out _ _ _ _ _ _ _ _ _ _ _ _ _ w1 st R.out.1 ⟨D1, S1, R.out.2⟩

end Go.Proofs.Ybulkaggi.CE

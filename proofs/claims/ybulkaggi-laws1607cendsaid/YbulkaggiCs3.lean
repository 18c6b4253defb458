import Derived.Test.YbulkaggiCsa
namespace Go.Proofs.Ybulkaggi.CE
open Go.RowKit Go.WideMaps Go.Maps
set_option linter.unusedVariables false
set_option maxRecDepth 100000

set_option maxHeartbeats 4000000 in
theorem round3 {KK : Act → World → Prop} {Q : Exit → Act → World → Prop} {N T ab nb X o pa pb k nx L hk8 : Nat} {ha : Option Addr} {pc : Bool} {D0 D : List Nat} {S : St} {w0 W : World} {y0 y1 y2 y3 y4 y10 y12 y13 y14 y15 y16 y17 y18 y19 y20 y21 y22 y23 y24 y25 y26 y27 y28 y29 y30 y31 y32 y34 y35 y36 y37 y38 y39 y40 y41 y42 y43 y44 y45 y46 y47 y48 y49 y50 y51 y52 y53 y54 y55 y56 y57 y58 y59 y60 y61 y62 y63 y64 y65 y66 y67 y68 y69 y70 y71 y72 y73 y74 y75 y76 y77 y78 y79 y80 y81 y82 y83 y84 y85 y86 y87 y88 y89 y90 y91 y92 y93 y94 y95 y96 y97 y98 y99 y100 y101 y102 y103 y104 y105 y106 y107 y108 y109 y110 y111 y112 y113 y114 y115 y116 y117 y118 y119 y120 y121 y122 y123 y124 y125 y126 y127 y128 y129 y130 y131 y132 y133 y134 y135 y136 y137 y138 y139 y140 y141 y142 y143 y144 y145 y146 y147 : Value} (SC : SortC)
    (hKK : ∀ a w, Code.wp Yba.prog (afOf Yba.f6.body 12) Q a w → KK a w)
    (hI : LI N T ab nb w0 W k nx (.slice ha L hk8) D0 D S) (hL : S.hs.length = L) (hL64 : L ≤ 64) (dX : X ∈ D0) (hk : k < 1024) (lo : o < 256) (lpa : pa < 256) (lpb : pb < 256)
    (q0 : W.cell? ⟨X, 0, none⟩ = some (.int .u8 (o : Int))) (q1 : W.cell? ⟨X, 1, none⟩ = some (.int .u8 (pa : Int))) (q2 : W.cell? ⟨X, 2, none⟩ = some (.int .u8 (pb : Int))) (q3 : W.cell? ⟨X, 3, none⟩ = some (.bool pc))
    (hr : (o : Int) % 4 = 3)
    (hK : ∀ (v8 v9 : Value) (nx1 : Nat) (t12 t13 t14 t15 t16 t33 t34 t35 t36 t37 t38 t39 t40 t41 t42 t43 t44 t45 t46 t47 t48 t49 t50 t51 t52 t53 t54 t55 t56 t57 t58 t59 t60 t61 t62 t63 t64 t65 t66 t67 t68 t69 t70 t71 t72 t73 t74 t75 t76 t77 t78 t79 t80 t81 t82 t83 t84 t85 t86 t87 t88 t89 t90 t91 t92 t93 t94 t95 t96 t97 t98 t99 t100 t101 t102 t103 t104 t105 t106 t107 t108 t109 t110 t111 t112 t113 t114 t115 t116 t117 t118 t119 t120 t121 t122 t123 t124 t125 t126 t127 t128 t129 t130 t131 t132 t133 t134 t135 t136 t137 t138 t139 t140 t141 t142 t143 t144 t145 t146 : Value) (w' : World) (D0' D' : List Nat) (S' : St), v9 = .int .i64 (nx1 : Int) → LI N T ab nb w0 w' (k + 1) nx1 v8 D0' D' S' → Q .normal { tmps := List.toArray (y0 :: y1 :: y2 :: y3 :: y4 :: (Pp T) :: (Pp nb) :: (.slice (some ⟨ab, 0, none⟩) 64 64) :: (v8) :: (v9) :: y10 :: (Pp X) :: (t12) :: (t13) :: (t14) :: (t15) :: (t16) :: y17 :: y18 :: y19 :: y20 :: y21 :: y22 :: y23 :: y24 :: y25 :: y26 :: y27 :: y28 :: y29 :: y30 :: y31 :: y32 :: (t33) :: (t34) :: (t35) :: (t36) :: (t37) :: (t38) :: (t39) :: (t40) :: (t41) :: (t42) :: (t43) :: (t44) :: (t45) :: (t46) :: (t47) :: (t48) :: (t49) :: (t50) :: (t51) :: (t52) :: (t53) :: (t54) :: (t55) :: (t56) :: (t57) :: (t58) :: (t59) :: (t60) :: (t61) :: (t62) :: (t63) :: (t64) :: (t65) :: (t66) :: (t67) :: (t68) :: (t69) :: (t70) :: (t71) :: (t72) :: (t73) :: (t74) :: (t75) :: (t76) :: (t77) :: (t78) :: (t79) :: (t80) :: (t81) :: (t82) :: (t83) :: (t84) :: (t85) :: (t86) :: (t87) :: (t88) :: (t89) :: (t90) :: (t91) :: (t92) :: (t93) :: (t94) :: (t95) :: (t96) :: (t97) :: (t98) :: (t99) :: (t100) :: (t101) :: (t102) :: (t103) :: (t104) :: (t105) :: (t106) :: (t107) :: (t108) :: (t109) :: (t110) :: (t111) :: (t112) :: (t113) :: (t114) :: (t115) :: (t116) :: (t117) :: (t118) :: (t119) :: (t120) :: (t121) :: (t122) :: (t123) :: (t124) :: (t125) :: (t126) :: (t127) :: (t128) :: (t129) :: (t130) :: (t131) :: (t132) :: (t133) :: (t134) :: (t135) :: (t136) :: (t137) :: (t138) :: (t139) :: (t140) :: (t141) :: (t142) :: (t143) :: (t144) :: (t145) :: (t146) :: y147 :: []), defers := [] } w' ∧ Q (.exit 1) { tmps := List.toArray (y0 :: y1 :: y2 :: y3 :: y4 :: (Pp T) :: (Pp nb) :: (.slice (some ⟨ab, 0, none⟩) 64 64) :: (v8) :: (v9) :: y10 :: (Pp X) :: (t12) :: (t13) :: (t14) :: (t15) :: (t16) :: y17 :: y18 :: y19 :: y20 :: y21 :: y22 :: y23 :: y24 :: y25 :: y26 :: y27 :: y28 :: y29 :: y30 :: y31 :: y32 :: (t33) :: (t34) :: (t35) :: (t36) :: (t37) :: (t38) :: (t39) :: (t40) :: (t41) :: (t42) :: (t43) :: (t44) :: (t45) :: (t46) :: (t47) :: (t48) :: (t49) :: (t50) :: (t51) :: (t52) :: (t53) :: (t54) :: (t55) :: (t56) :: (t57) :: (t58) :: (t59) :: (t60) :: (t61) :: (t62) :: (t63) :: (t64) :: (t65) :: (t66) :: (t67) :: (t68) :: (t69) :: (t70) :: (t71) :: (t72) :: (t73) :: (t74) :: (t75) :: (t76) :: (t77) :: (t78) :: (t79) :: (t80) :: (t81) :: (t82) :: (t83) :: (t84) :: (t85) :: (t86) :: (t87) :: (t88) :: (t89) :: (t90) :: (t91) :: (t92) :: (t93) :: (t94) :: (t95) :: (t96) :: (t97) :: (t98) :: (t99) :: (t100) :: (t101) :: (t102) :: (t103) :: (t104) :: (t105) :: (t106) :: (t107) :: (t108) :: (t109) :: (t110) :: (t111) :: (t112) :: (t113) :: (t114) :: (t115) :: (t116) :: (t117) :: (t118) :: (t119) :: (t120) :: (t121) :: (t122) :: (t123) :: (t124) :: (t125) :: (t126) :: (t127) :: (t128) :: (t129) :: (t130) :: (t131) :: (t132) :: (t133) :: (t134) :: (t135) :: (t136) :: (t137) :: (t138) :: (t139) :: (t140) :: (t141) :: (t142) :: (t143) :: (t144) :: (t145) :: (t146) :: y147 :: []), defers := [] } w') :
    Code.wp Yba.prog (rgOf Yba.f6.body 12) (Exit.then KK Q) { tmps := List.toArray (y0 :: y1 :: y2 :: y3 :: y4 :: (Pp T) :: (Pp nb) :: (.slice (some ⟨ab, 0, none⟩) 64 64) :: (.slice ha L hk8) :: (.int .i64 (nx : Int)) :: y10 :: (Pp X) :: y12 :: y13 :: y14 :: y15 :: y16 :: y17 :: y18 :: y19 :: y20 :: y21 :: y22 :: y23 :: y24 :: y25 :: y26 :: y27 :: y28 :: y29 :: y30 :: y31 :: y32 :: (.int .u8 ((o : Int) % 4)) :: y34 :: y35 :: y36 :: y37 :: y38 :: y39 :: y40 :: y41 :: y42 :: y43 :: y44 :: y45 :: y46 :: y47 :: y48 :: y49 :: y50 :: y51 :: y52 :: y53 :: y54 :: y55 :: y56 :: y57 :: y58 :: y59 :: y60 :: y61 :: y62 :: y63 :: y64 :: y65 :: y66 :: y67 :: y68 :: y69 :: y70 :: y71 :: y72 :: y73 :: y74 :: y75 :: y76 :: y77 :: y78 :: y79 :: y80 :: y81 :: y82 :: y83 :: y84 :: y85 :: y86 :: y87 :: y88 :: y89 :: y90 :: y91 :: y92 :: y93 :: y94 :: y95 :: y96 :: y97 :: y98 :: y99 :: y100 :: y101 :: y102 :: y103 :: y104 :: y105 :: y106 :: y107 :: y108 :: y109 :: y110 :: y111 :: y112 :: y113 :: y114 :: y115 :: y116 :: y117 :: y118 :: y119 :: y120 :: y121 :: y122 :: y123 :: y124 :: y125 :: y126 :: y127 :: y128 :: y129 :: y130 :: y131 :: y132 :: y133 :: y134 :: y135 :: y136 :: y137 :: y138 :: y139 :: y140 :: y141 :: y142 :: y143 :: y144 :: y145 :: y146 :: y147 :: []), defers := [] } W := by
  have n64 := hI.n64
  have hc : 64 * k + 64 ≤ 100000 := by omega
  have II := hide hI
  have HLn := hide hL
  have HK := hide hK
  have HKK := hide hKK
  clear hI hL hK hKK
  by_cases e0 : L = 0
  · subst e0
    conv => arg 2; whnf
    go_wp2_with fail
    refine HKK.out _ _ ?_
    conv => arg 2; whnf
    go_wp2
    exact (HK.out _ _ nx _ _ _ _ _ _ _ _ _ _ _ _ _ _ _ _ _ _ _ _ _ _ _ _ _ _ _ _ _ _ _ _ _ _ _ _ _ _ _ _ _ _ _ _ _ _ _ _ _ _ _ _ _ _ _ _ _ _ _ _ _ _ _ _ _ _ _ _ _ _ _ _ _ _ _ _ _ _ _ _ _ _ _ _ _ _ _ _ _ _ _ _ _ _ _ _ _ _ _ _ _ _ _ _ _ _ _ _ _ _ _ _ _ _ _ _ _ _ _ _ _ _ _ (by simp) II.out.next).2
  · have e0' : ¬ (L : Int) = 0 := by omega
    obtain ⟨i, hi⟩ : ∃ i, pa % L = i := ⟨_, rfl⟩
    have hiL : i < L := by rw [← hi]; exact Nat.mod_lt _ (Nat.pos_of_ne_zero e0)
    have hiL' : (i : Int) < (L : Int) := Int.ofNat_lt.2 hiL
    have hidx : (wrap64 (pa : Int)).tmod (L : Int) = (i : Int) := by rw [tmod_small pa L lpa, hi]
    have hidx2 : (pa : Int).tmod (L : Int) = (i : Int) := by rw [← hi]; rfl
    obtain ⟨x, hx⟩ : ∃ x, S.hs[i]'(by rw [HLn.out]; exact hiL) = x := ⟨_, rfl⟩
    obtain ⟨g, cp, b, e8, htm, z1, z2, rlk, z4, hm, x64, hal⟩ := II.out.pick _ hx
    rw [HLn.out] at e8
    cases e8
    obtain ⟨va, z7⟩ := II.out.ab.cell x64
    have HX := hide hx
    have HPK := hide (And.intro hm (And.intro x64 (And.intro hal htm)))
    have x64' : (x : Int) < 64 := by omega
    clear hm hal htm hx hi
    cases hwt : S.wt x with
    | some p =>
      rw [hwt] at z4
      change W.cell? ⟨S.tb x, 4, none⟩ = some (Pp p.1) at z4
      clear hwt HPK HX
      generalize S.tb x = B at *
      conv => arg 2; whnf
      go_wp2_with fail
      refine HKK.out _ _ ?_
      conv => arg 2; whnf
      go_wp2
      exact (HK.out _ _ nx _ _ _ _ _ _ _ _ _ _ _ _ _ _ _ _ _ _ _ _ _ _ _ _ _ _ _ _ _ _ _ _ _ _ _ _ _ _ _ _ _ _ _ _ _ _ _ _ _ _ _ _ _ _ _ _ _ _ _ _ _ _ _ _ _ _ _ _ _ _ _ _ _ _ _ _ _ _ _ _ _ _ _ _ _ _ _ _ _ _ _ _ _ _ _ _ _ _ _ _ _ _ _ _ _ _ _ _ _ _ _ _ _ _ _ _ _ _ _ _ _ _ _ (by simp) II.out.next).2
    | none =>
      rw [hwt] at z4
      change W.cell? ⟨S.tb x, 4, none⟩ = some (.pointer none) at z4
      have HC : Hid (∀ commit, Calls Yba.prog 21 #[Pp T, .int .i64 (x : Int), .bool commit, .slice (some ⟨ab, 0, none⟩) 64 64] W (CheckPost N D0 D T W S x (64 * k) ab)) := fun commit => check_any SC II.out.rel II.out.inv hc HPK.out.1 II.out.ks II.out.l64 II.out.sp hwt HPK.out.2.2.2 HPK.out.2.2.1 commit II.out.sub II.out.abd II.out.abn II.out.ab
      have HR : Hid (∀ w1 S1, CheckRes N D0 D T W S x (64 * k) ab w1 S1 → w1.ownsRow N 3 1 (.slice (some ⟨g, 0, none⟩) L hk8) L (S.hs.map zI)) := fun w1 S1 r => by
        have := own_keep II.out.row (fun g' hg' => r.fr.block g' (.inr (II.out.hd g' hg')))
        rw [HLn.out] at this
        exact this
      have HE : Hid (∀ w1 S1 w2, CheckRes N D0 D T W S x (64 * k) ab w1 S1 → w2.ownsRow N 3 1 (.slice (some ⟨g, 0, none⟩) (L - 1) hk8) (L - 1) ((S.hs.map zI).eraseIdx i) → At1 g w1 w2 → LI N T ab nb w0 w2 (k + 1) nx (.slice (some ⟨g, 0, none⟩) (L - 1) hk8) D0 D S1) := fun w1 S1 w2 r e1 e2 => II.out.ended (by rw [HLn.out]; exact hiL) HX.out r rfl e1 HLn.out e2
      have hLm : (S.hs.map zI).length = L := by simp [HLn.out]
      have one := zI_one S.hs
      have HLM := hide hLm
      have HON := hide one
      clear hwt HPK HX hLm one
      generalize S.tb x = B at *
      generalize S.hs.map zI = XS at *
      cases pc with
      | false =>
        conv => arg 2; whnf
        go_wp2_with fail
        refine HKK.out _ _ ?_
        conv => arg 2; whnf
        go_wp2_with (first | (go_at_call 21; refine (HC.out _).mono ?_; rintro e w1 ⟨rfl, S1, r⟩; have P := hide r; clear r) | (go_at_call 22; refine (delint_any g L hk8 i N _ XS w1 rfl HLM.out hiL (by omega) HON.out (HR.out w1 S1 P.out)).mono ?_; rintro e w2 ⟨rfl, e1, e2⟩; have P2 := hide (And.intro e1 e2); clear e1 e2))
        exact (HK.out _ _ nx _ _ _ _ _ _ _ _ _ _ _ _ _ _ _ _ _ _ _ _ _ _ _ _ _ _ _ _ _ _ _ _ _ _ _ _ _ _ _ _ _ _ _ _ _ _ _ _ _ _ _ _ _ _ _ _ _ _ _ _ _ _ _ _ _ _ _ _ _ _ _ _ _ _ _ _ _ _ _ _ _ _ _ _ _ _ _ _ _ _ _ _ _ _ _ _ _ _ _ _ _ _ _ _ _ _ _ _ _ _ _ _ _ _ _ _ _ _ _ _ _ _ _ (by simp) (HE.out w1 S1 w2 P.out P2.out.1 P2.out.2)).1
      | true =>
        cases va with
        | false =>
          conv => arg 2; whnf
          go_wp2_with fail
          refine HKK.out _ _ ?_
          conv => arg 2; whnf
          go_wp2_with (first | (go_at_call 21; refine (HC.out _).mono ?_; rintro e w1 ⟨rfl, S1, r⟩; have P := hide r; clear r) | (go_at_call 22; refine (delint_any g L hk8 i N _ XS w1 rfl HLM.out hiL (by omega) HON.out (HR.out w1 S1 P.out)).mono ?_; rintro e w2 ⟨rfl, e1, e2⟩; have P2 := hide (And.intro e1 e2); clear e1 e2))
          exact (HK.out _ _ nx _ _ _ _ _ _ _ _ _ _ _ _ _ _ _ _ _ _ _ _ _ _ _ _ _ _ _ _ _ _ _ _ _ _ _ _ _ _ _ _ _ _ _ _ _ _ _ _ _ _ _ _ _ _ _ _ _ _ _ _ _ _ _ _ _ _ _ _ _ _ _ _ _ _ _ _ _ _ _ _ _ _ _ _ _ _ _ _ _ _ _ _ _ _ _ _ _ _ _ _ _ _ _ _ _ _ _ _ _ _ _ _ _ _ _ _ _ _ _ _ _ _ _ (by simp) (HE.out w1 S1 w2 P.out P2.out.1 P2.out.2)).1
        | true =>
          conv => arg 2; whnf
          go_wp2_with fail
          refine HKK.out _ _ ?_
          conv => arg 2; whnf
          go_wp2_with (first | (go_at_call 21; refine (HC.out _).mono ?_; rintro e w1 ⟨rfl, S1, r⟩; have P := hide r; clear r) | (go_at_call 22; refine (delint_any g L hk8 i N _ XS w1 rfl HLM.out hiL (by omega) HON.out (HR.out w1 S1 P.out)).mono ?_; rintro e w2 ⟨rfl, e1, e2⟩; have P2 := hide (And.intro e1 e2); clear e1 e2))
          exact (HK.out _ _ nx _ _ _ _ _ _ _ _ _ _ _ _ _ _ _ _ _ _ _ _ _ _ _ _ _ _ _ _ _ _ _ _ _ _ _ _ _ _ _ _ _ _ _ _ _ _ _ _ _ _ _ _ _ _ _ _ _ _ _ _ _ _ _ _ _ _ _ _ _ _ _ _ _ _ _ _ _ _ _ _ _ _ _ _ _ _ _ _ _ _ _ _ _ _ _ _ _ _ _ _ _ _ _ _ _ _ _ _ _ _ _ _ _ _ _ _ _ _ _ _ _ _ _ (by simp) (HE.out w1 S1 w2 P.out P2.out.1 P2.out.2)).1

end Go.Proofs.Ybulkaggi.CE

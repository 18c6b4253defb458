import Derived.Test.YbulkaggiCsa
namespace Go.Proofs.Ybulkaggi.CE
open Go.RowKit Go.WideMaps Go.Maps
set_option linter.unusedVariables false
set_option maxRecDepth 100000

set_option maxHeartbeats 4000000 in
theorem round2 {KK : Act → World → Prop} {Q : Exit → Act → World → Prop} {N T ab nb X o pa pb k nx L hk8 : Nat} {ha : Option Addr} {pc : Bool} {D0 D : List Nat} {S : St} {w0 W : World} {y0 y1 y2 y3 y4 y10 y12 y13 y14 y15 y16 y17 y18 y19 y20 y21 y22 y23 y24 y25 y26 y27 y28 y29 y30 y31 y32 y34 y35 y36 y37 y38 y39 y40 y41 y42 y43 y44 y45 y46 y47 y48 y49 y50 y51 y52 y53 y54 y55 y56 y57 y58 y59 y60 y61 y62 y63 y64 y65 y66 y67 y68 y69 y70 y71 y72 y73 y74 y75 y76 y77 y78 y79 y80 y81 y82 y83 y84 y85 y86 y87 y88 y89 y90 y91 y92 y93 y94 y95 y96 y97 y98 y99 y100 y101 y102 y103 y104 y105 y106 y107 y108 y109 y110 y111 y112 y113 y114 y115 y116 y117 y118 y119 y120 y121 y122 y123 y124 y125 y126 y127 y128 y129 y130 y131 y132 y133 y134 y135 y136 y137 y138 y139 y140 y141 y142 y143 y144 y145 y146 y147 : Value} (SC : SortC)
    (hKK : ∀ a w, Code.wp Yba.prog (afOf Yba.f6.body 12) Q a w → KK a w)
    (hI : LI N T ab nb w0 W k nx (.slice ha L hk8) D0 D S) (hL : S.hs.length = L) (hL64 : L ≤ 64) (dX : X ∈ D0) (hk : k < 1024) (lo : o < 256) (lpa : pa < 256) (lpb : pb < 256)
    (q0 : W.cell? ⟨X, 0, none⟩ = some (.int .u8 (o : Int))) (q1 : W.cell? ⟨X, 1, none⟩ = some (.int .u8 (pa : Int))) (q2 : W.cell? ⟨X, 2, none⟩ = some (.int .u8 (pb : Int))) (q3 : W.cell? ⟨X, 3, none⟩ = some (.bool pc))
    (hr : (o : Int) % 4 = 2)
    (hK : ∀ (v8 v9 : Value) (nx1 : Nat) (t12 t13 t14 t15 t16 t33 t34 t35 t36 t37 t38 t39 t40 t41 t42 t43 t44 t45 t46 t47 t48 t49 t50 t51 t52 t53 t54 t55 t56 t57 t58 t59 t60 t61 t62 t63 t64 t65 t66 t67 t68 t69 t70 t71 t72 t73 t74 t75 t76 t77 t78 t79 t80 t81 t82 t83 t84 t85 t86 t87 t88 t89 t90 t91 t92 t93 t94 t95 t96 t97 t98 t99 t100 t101 t102 t103 t104 t105 t106 t107 t108 t109 t110 t111 t112 t113 t114 t115 t116 t117 t118 t119 t120 t121 t122 t123 t124 t125 t126 t127 t128 t129 t130 t131 t132 t133 t134 t135 t136 t137 t138 t139 t140 t141 t142 t143 t144 t145 t146 : Value) (w' : World) (D0' D' : List Nat) (S' : St), v9 = .int .i64 (nx1 : Int) → LI N T ab nb w0 w' (k + 1) nx1 v8 D0' D' S' → Q .normal { tmps := List.toArray (y0 :: y1 :: y2 :: y3 :: y4 :: (Pp T) :: (Pp nb) :: (.slice (some ⟨ab, 0, none⟩) 64 64) :: (v8) :: (v9) :: y10 :: (Pp X) :: (t12) :: (t13) :: (t14) :: (t15) :: (t16) :: y17 :: y18 :: y19 :: y20 :: y21 :: y22 :: y23 :: y24 :: y25 :: y26 :: y27 :: y28 :: y29 :: y30 :: y31 :: y32 :: (t33) :: (t34) :: (t35) :: (t36) :: (t37) :: (t38) :: (t39) :: (t40) :: (t41) :: (t42) :: (t43) :: (t44) :: (t45) :: (t46) :: (t47) :: (t48) :: (t49) :: (t50) :: (t51) :: (t52) :: (t53) :: (t54) :: (t55) :: (t56) :: (t57) :: (t58) :: (t59) :: (t60) :: (t61) :: (t62) :: (t63) :: (t64) :: (t65) :: (t66) :: (t67) :: (t68) :: (t69) :: (t70) :: (t71) :: (t72) :: (t73) :: (t74) :: (t75) :: (t76) :: (t77) :: (t78) :: (t79) :: (t80) :: (t81) :: (t82) :: (t83) :: (t84) :: (t85) :: (t86) :: (t87) :: (t88) :: (t89) :: (t90) :: (t91) :: (t92) :: (t93) :: (t94) :: (t95) :: (t96) :: (t97) :: (t98) :: (t99) :: (t100) :: (t101) :: (t102) :: (t103) :: (t104) :: (t105) :: (t106) :: (t107) :: (t108) :: (t109) :: (t110) :: (t111) :: (t112) :: (t113) :: (t114) :: (t115) :: (t116) :: (t117) :: (t118) :: (t119) :: (t120) :: (t121) :: (t122) :: (t123) :: (t124) :: (t125) :: (t126) :: (t127) :: (t128) :: (t129) :: (t130) :: (t131) :: (t132) :: (t133) :: (t134) :: (t135) :: (t136) :: (t137) :: (t138) :: (t139) :: (t140) :: (t141) :: (t142) :: (t143) :: (t144) :: (t145) :: (t146) :: y147 :: []), defers := [] } w' ∧ Q (.exit 1) { tmps := List.toArray (y0 :: y1 :: y2 :: y3 :: y4 :: (Pp T) :: (Pp nb) :: (.slice (some ⟨ab, 0, none⟩) 64 64) :: (v8) :: (v9) :: y10 :: (Pp X) :: (t12) :: (t13) :: (t14) :: (t15) :: (t16) :: y17 :: y18 :: y19 :: y20 :: y21 :: y22 :: y23 :: y24 :: y25 :: y26 :: y27 :: y28 :: y29 :: y30 :: y31 :: y32 :: (t33) :: (t34) :: (t35) :: (t36) :: (t37) :: (t38) :: (t39) :: (t40) :: (t41) :: (t42) :: (t43) :: (t44) :: (t45) :: (t46) :: (t47) :: (t48) :: (t49) :: (t50) :: (t51) :: (t52) :: (t53) :: (t54) :: (t55) :: (t56) :: (t57) :: (t58) :: (t59) :: (t60) :: (t61) :: (t62) :: (t63) :: (t64) :: (t65) :: (t66) :: (t67) :: (t68) :: (t69) :: (t70) :: (t71) :: (t72) :: (t73) :: (t74) :: (t75) :: (t76) :: (t77) :: (t78) :: (t79) :: (t80) :: (t81) :: (t82) :: (t83) :: (t84) :: (t85) :: (t86) :: (t87) :: (t88) :: (t89) :: (t90) :: (t91) :: (t92) :: (t93) :: (t94) :: (t95) :: (t96) :: (t97) :: (t98) :: (t99) :: (t100) :: (t101) :: (t102) :: (t103) :: (t104) :: (t105) :: (t106) :: (t107) :: (t108) :: (t109) :: (t110) :: (t111) :: (t112) :: (t113) :: (t114) :: (t115) :: (t116) :: (t117) :: (t118) :: (t119) :: (t120) :: (t121) :: (t122) :: (t123) :: (t124) :: (t125) :: (t126) :: (t127) :: (t128) :: (t129) :: (t130) :: (t131) :: (t132) :: (t133) :: (t134) :: (t135) :: (t136) :: (t137) :: (t138) :: (t139) :: (t140) :: (t141) :: (t142) :: (t143) :: (t144) :: (t145) :: (t146) :: y147 :: []), defers := [] } w') :
    Code.wp Yba.prog (rgOf Yba.f6.body 12) (Exit.then KK Q) { tmps := List.toArray (y0 :: y1 :: y2 :: y3 :: y4 :: (Pp T) :: (Pp nb) :: (.slice (some ⟨ab, 0, none⟩) 64 64) :: (.slice ha L hk8) :: (.int .i64 (nx : Int)) :: y10 :: (Pp X) :: y12 :: y13 :: y14 :: y15 :: y16 :: y17 :: y18 :: y19 :: y20 :: y21 :: y22 :: y23 :: y24 :: y25 :: y26 :: y27 :: y28 :: y29 :: y30 :: y31 :: y32 :: (.int .u8 ((o : Int) % 4)) :: y34 :: y35 :: y36 :: y37 :: y38 :: y39 :: y40 :: y41 :: y42 :: y43 :: y44 :: y45 :: y46 :: y47 :: y48 :: y49 :: y50 :: y51 :: y52 :: y53 :: y54 :: y55 :: y56 :: y57 :: y58 :: y59 :: y60 :: y61 :: y62 :: y63 :: y64 :: y65 :: y66 :: y67 :: y68 :: y69 :: y70 :: y71 :: y72 :: y73 :: y74 :: y75 :: y76 :: y77 :: y78 :: y79 :: y80 :: y81 :: y82 :: y83 :: y84 :: y85 :: y86 :: y87 :: y88 :: y89 :: y90 :: y91 :: y92 :: y93 :: y94 :: y95 :: y96 :: y97 :: y98 :: y99 :: y100 :: y101 :: y102 :: y103 :: y104 :: y105 :: y106 :: y107 :: y108 :: y109 :: y110 :: y111 :: y112 :: y113 :: y114 :: y115 :: y116 :: y117 :: y118 :: y119 :: y120 :: y121 :: y122 :: y123 :: y124 :: y125 :: y126 :: y127 :: y128 :: y129 :: y130 :: y131 :: y132 :: y133 :: y134 :: y135 :: y136 :: y137 :: y138 :: y139 :: y140 :: y141 :: y142 :: y143 :: y144 :: y145 :: y146 :: y147 :: []), defers := [] } W := by
  have n64 := hI.n64
  have hc : 64 * k + 64 ≤ 100000 := by omega
  have II := hide hI
  have HLn := hide hL
  have HK := hide hK
  have HKK := hide hKK
  clear hI hL hK hKK
  by_cases e0 : L = 0
  · subst e0
    conv => arg 2; whnf
    go_wp2_with fail
    refine HKK.out _ _ ?_
    conv => arg 2; whnf
    go_wp2
    exact (HK.out _ _ nx _ _ _ _ _ _ _ _ _ _ _ _ _ _ _ _ _ _ _ _ _ _ _ _ _ _ _ _ _ _ _ _ _ _ _ _ _ _ _ _ _ _ _ _ _ _ _ _ _ _ _ _ _ _ _ _ _ _ _ _ _ _ _ _ _ _ _ _ _ _ _ _ _ _ _ _ _ _ _ _ _ _ _ _ _ _ _ _ _ _ _ _ _ _ _ _ _ _ _ _ _ _ _ _ _ _ _ _ _ _ _ _ _ _ _ _ _ _ _ _ _ _ _ (by simp) II.out.next).2
  · have e0' : ¬ (L : Int) = 0 := by omega
    obtain ⟨i, hi⟩ : ∃ i, pa % L = i := ⟨_, rfl⟩
    have hiL : i < L := by rw [← hi]; exact Nat.mod_lt _ (Nat.pos_of_ne_zero e0)
    have hiL' : (i : Int) < (L : Int) := Int.ofNat_lt.2 hiL
    have hidx : (wrap64 (pa : Int)).tmod (L : Int) = (i : Int) := by rw [tmod_small pa L lpa, hi]
    have hidx2 : (pa : Int).tmod (L : Int) = (i : Int) := by rw [← hi]; rfl
    obtain ⟨x, hx⟩ : ∃ x, S.hs[i]'(by rw [HLn.out]; exact hiL) = x := ⟨_, rfl⟩
    obtain ⟨g, cp, b, e8, htm, z1, z2, rlk, z4, hm, x64, hal⟩ := II.out.pick _ hx
    rw [HLn.out] at e8
    cases e8
    obtain ⟨va, z7⟩ := II.out.ab.cell x64
    have HX := hide hx
    have HPK := hide (And.intro hm (And.intro x64 (And.intro hal htm)))
    have x64' : (x : Int) < 64 := by omega
    clear hm hal htm hx hi
    cases hwt : S.wt x with
    | some p =>
      rw [hwt] at z4
      change W.cell? ⟨S.tb x, 4, none⟩ = some (Pp p.1) at z4
      clear hwt HPK HX
      generalize S.tb x = B at *
      conv => arg 2; whnf
      go_wp2_with fail
      refine HKK.out _ _ ?_
      conv => arg 2; whnf
      go_wp2
      exact (HK.out _ _ nx _ _ _ _ _ _ _ _ _ _ _ _ _ _ _ _ _ _ _ _ _ _ _ _ _ _ _ _ _ _ _ _ _ _ _ _ _ _ _ _ _ _ _ _ _ _ _ _ _ _ _ _ _ _ _ _ _ _ _ _ _ _ _ _ _ _ _ _ _ _ _ _ _ _ _ _ _ _ _ _ _ _ _ _ _ _ _ _ _ _ _ _ _ _ _ _ _ _ _ _ _ _ _ _ _ _ _ _ _ _ _ _ _ _ _ _ _ _ _ _ _ _ _ (by simp) II.out.next).2
    | none =>
      rw [hwt] at z4
      change W.cell? ⟨S.tb x, 4, none⟩ = some (.pointer none) at z4
      cases va with
      | true =>
        clear hwt HPK HX
        generalize S.tb x = B at *
        conv => arg 2; whnf
        go_wp2_with fail
        refine HKK.out _ _ ?_
        conv => arg 2; whnf
        go_wp2
        exact (HK.out _ _ nx _ _ _ _ _ _ _ _ _ _ _ _ _ _ _ _ _ _ _ _ _ _ _ _ _ _ _ _ _ _ _ _ _ _ _ _ _ _ _ _ _ _ _ _ _ _ _ _ _ _ _ _ _ _ _ _ _ _ _ _ _ _ _ _ _ _ _ _ _ _ _ _ _ _ _ _ _ _ _ _ _ _ _ _ _ _ _ _ _ _ _ _ _ _ _ _ _ _ _ _ _ _ _ _ _ _ _ _ _ _ _ _ _ _ _ _ _ _ _ _ _ _ _ (by simp) II.out.next).2
      | false =>
        have hj3 : pb % 3 < 3 := Nat.mod_lt _ (by decide)
        have y4' := nam_at II.out.nam hj3
        have ID := II.out.same (w' := W.drew) rfl rfl rfl rfl
        have C19 := hide (ask_any (D0 := ab :: D0) ID.rel ID.inv (Nat.le_trans (by omega) hc) HPK.out.1 ID.ks hwt hj3 ID.subA ID.al ID.umA true)
        have HID := hide ID
        have HY4 := hide y4'
        have HQ := hide (And.intro (List.mem_cons_of_mem ab dX) (List.mem_cons_of_mem ab II.out.nd))
        clear ID hwt y4'
        generalize S.tb x = B at *
        conv => arg 2; whnf
        go_wp2_with fail
        refine HKK.out _ _ ?_
        conv => arg 2; whnf
        go_upto_region 22 with fail
        refine law22 C19.out HQ.out.1 HQ.out.2 lo lpb rfl (by rw [hr]; rfl) q0 q2 HY4.out ?_
        intro t81 t82 t83 t84 t85 t86 t87 t88 t89 t90 t91 t92 t93 w1 st hst hr1
        obtain ⟨D1, S1, r⟩ := hr1
        have J := HID.out.asked r
        obtain ⟨va', z7'⟩ := J.ab.cell HPK.out.2.1
        have z8' := J.ab.free x
        have JM := hide (J.mark HPK.out.2.1 true)
        have HJ := hide J
        have HST := hide hst
        clear r J hst C19 HID HY4 HQ q0 q1 q2 q3 z1 z2 z4 z7 rlk
        by_cases e4 : st = 4
        · subst e4
          go_wp2_with (go_at_call 20; refine (cok_any 4 HST.out _).mono ?_; rintro e w' ⟨rfl, hw'⟩; obtain rfl := hw'.symm)
          exact (HK.out _ _ nx _ _ _ _ _ _ _ _ _ _ _ _ _ _ _ _ _ _ _ _ _ _ _ _ _ _ _ _ _ _ _ _ _ _ _ _ _ _ _ _ _ _ _ _ _ _ _ _ _ _ _ _ _ _ _ _ _ _ _ _ _ _ _ _ _ _ _ _ _ _ _ _ _ _ _ _ _ _ _ _ _ _ _ _ _ _ _ _ _ _ _ _ _ _ _ _ _ _ _ _ _ _ _ _ _ _ _ _ _ _ _ _ _ _ _ _ _ _ _ _ _ _ _ (by simp) JM.out).1
        · have e4' : ¬ (st : Int) = 4 := fun e => e4 (by omega)
          go_wp2_with (go_at_call 20; refine (cok_any st HST.out _).mono ?_; rintro e w' ⟨rfl, hw'⟩; obtain rfl := hw'.symm)
          exact (HK.out _ _ nx _ _ _ _ _ _ _ _ _ _ _ _ _ _ _ _ _ _ _ _ _ _ _ _ _ _ _ _ _ _ _ _ _ _ _ _ _ _ _ _ _ _ _ _ _ _ _ _ _ _ _ _ _ _ _ _ _ _ _ _ _ _ _ _ _ _ _ _ _ _ _ _ _ _ _ _ _ _ _ _ _ _ _ _ _ _ _ _ _ _ _ _ _ _ _ _ _ _ _ _ _ _ _ _ _ _ _ _ _ _ _ _ _ _ _ _ _ _ _ _ _ _ _ (by simp) HJ.out).1

end Go.Proofs.Ybulkaggi.CE

import Derived.Test.YbulkaggiCo
import Derived.Test.YbulkaggiCr
namespace Go.Proofs.Ybulkaggi.CE
open Go.RowKit Go.WideMaps Go.Maps
set_option linter.unusedVariables false
set_option maxRecDepth 100000

set_option maxHeartbeats 4000000 in
theorem round0 {KK : Act → World → Prop} {Q : Exit → Act → World → Prop} {N T ab nb X o pa pb k nx L hk8 : Nat} {ha : Option Addr} {pc : Bool} {D0 D : List Nat} {S : St} {w0 W : World} {y0 y1 y2 y3 y4 y10 y12 y13 y14 y15 y16 y17 y18 y19 y20 y21 y22 y23 y24 y25 y26 y27 y28 y29 y30 y31 y32 y34 y35 y36 y37 y38 y39 y40 y41 y42 y43 y44 y45 y46 y47 y48 y49 y50 y51 y52 y53 y54 y55 y56 y57 y58 y59 y60 y61 y62 y63 y64 y65 y66 y67 y68 y69 y70 y71 y72 y73 y74 y75 y76 y77 y78 y79 y80 y81 y82 y83 y84 y85 y86 y87 y88 y89 y90 y91 y92 y93 y94 y95 y96 y97 y98 y99 y100 y101 y102 y103 y104 y105 y106 y107 y108 y109 y110 y111 y112 y113 y114 y115 y116 y117 y118 y119 y120 y121 y122 y123 y124 y125 y126 y127 y128 y129 y130 y131 y132 y133 y134 y135 y136 y137 y138 y139 y140 y141 y142 y143 y144 y145 y146 y147 : Value} (SC : SortC)
    (hKK : ∀ a w, Code.wp Yba.prog (afOf Yba.f6.body 12) Q a w → KK a w)
    (hI : LI N T ab nb w0 W k nx (.slice ha L hk8) D0 D S) (hL : S.hs.length = L) (hL64 : L ≤ 64) (dX : X ∈ D0) (hk : k < 1024) (lo : o < 256) (lpa : pa < 256) (lpb : pb < 256)
    (q0 : W.cell? ⟨X, 0, none⟩ = some (.int .u8 (o : Int))) (q1 : W.cell? ⟨X, 1, none⟩ = some (.int .u8 (pa : Int))) (q2 : W.cell? ⟨X, 2, none⟩ = some (.int .u8 (pb : Int))) (q3 : W.cell? ⟨X, 3, none⟩ = some (.bool pc))
    (hr : (o : Int) % 4 = 0)
    (hK : ∀ (v8 v9 : Value) (nx1 : Nat) (t12 t13 t14 t15 t16 t33 t34 t35 t36 t37 t38 t39 t40 t41 t42 t43 t44 t45 t46 t47 t48 t49 t50 t51 t52 t53 t54 t55 t56 t57 t58 t59 t60 t61 t62 t63 t64 t65 t66 t67 t68 t69 t70 t71 t72 t73 t74 t75 t76 t77 t78 t79 t80 t81 t82 t83 t84 t85 t86 t87 t88 t89 t90 t91 t92 t93 t94 t95 t96 t97 t98 t99 t100 t101 t102 t103 t104 t105 t106 t107 t108 t109 t110 t111 t112 t113 t114 t115 t116 t117 t118 t119 t120 t121 t122 t123 t124 t125 t126 t127 t128 t129 t130 t131 t132 t133 t134 t135 t136 t137 t138 t139 t140 t141 t142 t143 t144 t145 t146 : Value) (w' : World) (D0' D' : List Nat) (S' : St), v9 = .int .i64 (nx1 : Int) → LI N T ab nb w0 w' (k + 1) nx1 v8 D0' D' S' → Q .normal { tmps := List.toArray (y0 :: y1 :: y2 :: y3 :: y4 :: (Pp T) :: (Pp nb) :: (.slice (some ⟨ab, 0, none⟩) 64 64) :: (v8) :: (v9) :: y10 :: (Pp X) :: (t12) :: (t13) :: (t14) :: (t15) :: (t16) :: y17 :: y18 :: y19 :: y20 :: y21 :: y22 :: y23 :: y24 :: y25 :: y26 :: y27 :: y28 :: y29 :: y30 :: y31 :: y32 :: (t33) :: (t34) :: (t35) :: (t36) :: (t37) :: (t38) :: (t39) :: (t40) :: (t41) :: (t42) :: (t43) :: (t44) :: (t45) :: (t46) :: (t47) :: (t48) :: (t49) :: (t50) :: (t51) :: (t52) :: (t53) :: (t54) :: (t55) :: (t56) :: (t57) :: (t58) :: (t59) :: (t60) :: (t61) :: (t62) :: (t63) :: (t64) :: (t65) :: (t66) :: (t67) :: (t68) :: (t69) :: (t70) :: (t71) :: (t72) :: (t73) :: (t74) :: (t75) :: (t76) :: (t77) :: (t78) :: (t79) :: (t80) :: (t81) :: (t82) :: (t83) :: (t84) :: (t85) :: (t86) :: (t87) :: (t88) :: (t89) :: (t90) :: (t91) :: (t92) :: (t93) :: (t94) :: (t95) :: (t96) :: (t97) :: (t98) :: (t99) :: (t100) :: (t101) :: (t102) :: (t103) :: (t104) :: (t105) :: (t106) :: (t107) :: (t108) :: (t109) :: (t110) :: (t111) :: (t112) :: (t113) :: (t114) :: (t115) :: (t116) :: (t117) :: (t118) :: (t119) :: (t120) :: (t121) :: (t122) :: (t123) :: (t124) :: (t125) :: (t126) :: (t127) :: (t128) :: (t129) :: (t130) :: (t131) :: (t132) :: (t133) :: (t134) :: (t135) :: (t136) :: (t137) :: (t138) :: (t139) :: (t140) :: (t141) :: (t142) :: (t143) :: (t144) :: (t145) :: (t146) :: y147 :: []), defers := [] } w' ∧ Q (.exit 1) { tmps := List.toArray (y0 :: y1 :: y2 :: y3 :: y4 :: (Pp T) :: (Pp nb) :: (.slice (some ⟨ab, 0, none⟩) 64 64) :: (v8) :: (v9) :: y10 :: (Pp X) :: (t12) :: (t13) :: (t14) :: (t15) :: (t16) :: y17 :: y18 :: y19 :: y20 :: y21 :: y22 :: y23 :: y24 :: y25 :: y26 :: y27 :: y28 :: y29 :: y30 :: y31 :: y32 :: (t33) :: (t34) :: (t35) :: (t36) :: (t37) :: (t38) :: (t39) :: (t40) :: (t41) :: (t42) :: (t43) :: (t44) :: (t45) :: (t46) :: (t47) :: (t48) :: (t49) :: (t50) :: (t51) :: (t52) :: (t53) :: (t54) :: (t55) :: (t56) :: (t57) :: (t58) :: (t59) :: (t60) :: (t61) :: (t62) :: (t63) :: (t64) :: (t65) :: (t66) :: (t67) :: (t68) :: (t69) :: (t70) :: (t71) :: (t72) :: (t73) :: (t74) :: (t75) :: (t76) :: (t77) :: (t78) :: (t79) :: (t80) :: (t81) :: (t82) :: (t83) :: (t84) :: (t85) :: (t86) :: (t87) :: (t88) :: (t89) :: (t90) :: (t91) :: (t92) :: (t93) :: (t94) :: (t95) :: (t96) :: (t97) :: (t98) :: (t99) :: (t100) :: (t101) :: (t102) :: (t103) :: (t104) :: (t105) :: (t106) :: (t107) :: (t108) :: (t109) :: (t110) :: (t111) :: (t112) :: (t113) :: (t114) :: (t115) :: (t116) :: (t117) :: (t118) :: (t119) :: (t120) :: (t121) :: (t122) :: (t123) :: (t124) :: (t125) :: (t126) :: (t127) :: (t128) :: (t129) :: (t130) :: (t131) :: (t132) :: (t133) :: (t134) :: (t135) :: (t136) :: (t137) :: (t138) :: (t139) :: (t140) :: (t141) :: (t142) :: (t143) :: (t144) :: (t145) :: (t146) :: y147 :: []), defers := [] } w') :
    Code.wp Yba.prog (rgOf Yba.f6.body 12) (Exit.then KK Q) { tmps := List.toArray (y0 :: y1 :: y2 :: y3 :: y4 :: (Pp T) :: (Pp nb) :: (.slice (some ⟨ab, 0, none⟩) 64 64) :: (.slice ha L hk8) :: (.int .i64 (nx : Int)) :: y10 :: (Pp X) :: y12 :: y13 :: y14 :: y15 :: y16 :: y17 :: y18 :: y19 :: y20 :: y21 :: y22 :: y23 :: y24 :: y25 :: y26 :: y27 :: y28 :: y29 :: y30 :: y31 :: y32 :: (.int .u8 ((o : Int) % 4)) :: y34 :: y35 :: y36 :: y37 :: y38 :: y39 :: y40 :: y41 :: y42 :: y43 :: y44 :: y45 :: y46 :: y47 :: y48 :: y49 :: y50 :: y51 :: y52 :: y53 :: y54 :: y55 :: y56 :: y57 :: y58 :: y59 :: y60 :: y61 :: y62 :: y63 :: y64 :: y65 :: y66 :: y67 :: y68 :: y69 :: y70 :: y71 :: y72 :: y73 :: y74 :: y75 :: y76 :: y77 :: y78 :: y79 :: y80 :: y81 :: y82 :: y83 :: y84 :: y85 :: y86 :: y87 :: y88 :: y89 :: y90 :: y91 :: y92 :: y93 :: y94 :: y95 :: y96 :: y97 :: y98 :: y99 :: y100 :: y101 :: y102 :: y103 :: y104 :: y105 :: y106 :: y107 :: y108 :: y109 :: y110 :: y111 :: y112 :: y113 :: y114 :: y115 :: y116 :: y117 :: y118 :: y119 :: y120 :: y121 :: y122 :: y123 :: y124 :: y125 :: y126 :: y127 :: y128 :: y129 :: y130 :: y131 :: y132 :: y133 :: y134 :: y135 :: y136 :: y137 :: y138 :: y139 :: y140 :: y141 :: y142 :: y143 :: y144 :: y145 :: y146 :: y147 :: []), defers := [] } W := by
  have n64 := hI.n64
  have hc : 64 * k + 64 ≤ 100000 := by omega
  have II := hide hI
  have HLn := hide hL
  have HK := hide hK
  have HKK := hide hKK
  clear hI hL hK hKK
  by_cases h64 : nx < 64
  · have h64' : ¬ (64 : Int) ≤ (nx : Int) := by omega
    have C18 := hide (begin_any II.out.rel II.out.inv (by omega) h64 II.out.lt II.out.last II.out.ks II.out.l64 II.out.sp II.out.al (fun y b e1 e2 => ⟨(II.out.um y b e1 e2).1, (II.out.um y b e1 e2).2.2⟩))
    obtain ⟨t0, ht0, hu0, hu1, hu2⟩ := info_at info3
    have HRo : Hid (W.ownsRow N 3 1 (.slice ha L hk8) L (S.hs.map zI)) := by
      have := II.out.row
      rw [HLn.out] at this
      exact this
    have HP : Hid (∀ w1 S1, BeginRes N D T W S nx (64 * k) w1 S1 → w1.ownsRow N 3 1 (.slice ha L hk8) L (S.hs.map zI) ∧ N ≤ w1.heap.size) := fun w1 S1 r => ⟨own_keep HRo.out (fun g hg => r.fr.block g (.inr (II.out.sub g (II.out.hd g hg)))), r.rel.lowN⟩
    have HE : Hid (∀ w1 S1 v' w2 o, BeginRes N D T W S nx (64 * k) w1 S1 → w2.ownsRow N 3 1 v' (L + 1) (S.hs.map zI ++ [.int .i64 (nx : Int)]) → (w1.alloc o).grownBy w2 (Value.slice ha L hk8).ownBlock → (v'.ownBlock = (Value.slice ha L hk8).ownBlock ∨ v'.ownBlock = some (w1.heap.size + 1)) → ∃ D0' D' S', LI N T ab nb w0 w2 (k + 1) (nx + 1) v' D0' D' S') := fun w1 S1 v' w2 o r e1 e2 e3 => by
      refine II.out.begun r h64 (o := o) (by rw [HLn.out]; exact e1) e2 ?_
      simpa using e3
    generalize S.hs.map zI = XS at HRo HP HE
    conv => arg 2; whnf
    go_wp2_with fail
    refine HKK.out _ _ ?_
    conv => arg 2; whnf
    go_wp2_with (first
      | (go_at_call 18; refine C18.out.mono ?_; rintro e w1 ⟨rfl, S1, r⟩; obtain ⟨ro1, lN1⟩ := HP.out w1 S1 r; have R := hide r; have RO := hide ro1; clear r ro1)
      | (at_builtin; refine wpList_append_own_at _ rfl _ _ 58 rfl N 3 t0 (.int .i64 0) 1 8 Yba.underlying58 ht0 hu0 hu1 hu2 rfl (by decide) (.slice ha L hk8) L XS rfl (RO.out.alloc _) ⟨w1.heap.size, 0, none⟩ 1 1 [.int .i64 (nx : Int)] rfl rfl (cell_one_new w1 (.int .i64 (nx : Int)) 3) (by intro u hu; simp at hu; subst hu; rfl) (by unfold maxLen; omega) (by omega) (by simp; omega) ?_; intro v' w2 e1 e2 _ e3; obtain ⟨va', vk', rfl⟩ := sl_shape e1; have Q1 := hide (HE.out w1 S1 _ w2 _ R.out e1 e2 (by simpa using e3)); clear e1 e2 e3))
    obtain ⟨D0', D', S', q⟩ := Q1.out
    exact (HK.out _ _ (nx + 1) _ _ _ _ _ _ _ _ _ _ _ _ _ _ _ _ _ _ _ _ _ _ _ _ _ _ _ _ _ _ _ _ _ _ _ _ _ _ _ _ _ _ _ _ _ _ _ _ _ _ _ _ _ _ _ _ _ _ _ _ _ _ _ _ _ _ _ _ _ _ _ _ _ _ _ _ _ _ _ _ _ _ _ _ _ _ _ _ _ _ _ _ _ _ _ _ _ _ _ _ _ _ _ _ _ _ _ _ _ _ _ _ _ _ _ _ _ _ _ _ _ _ _ (by simp) q).1
  · have h64' : (64 : Int) ≤ (nx : Int) := by omega
    conv => arg 2; whnf
    go_wp2_with fail
    refine HKK.out _ _ ?_
    conv => arg 2; whnf
    go_wp2
    exact (HK.out _ _ nx _ _ _ _ _ _ _ _ _ _ _ _ _ _ _ _ _ _ _ _ _ _ _ _ _ _ _ _ _ _ _ _ _ _ _ _ _ _ _ _ _ _ _ _ _ _ _ _ _ _ _ _ _ _ _ _ _ _ _ _ _ _ _ _ _ _ _ _ _ _ _ _ _ _ _ _ _ _ _ _ _ _ _ _ _ _ _ _ _ _ _ _ _ _ _ _ _ _ _ _ _ _ _ _ _ _ _ _ _ _ _ _ _ _ _ _ _ _ _ _ _ _ _ (by simp) II.out.next).2

end Go.Proofs.Ybulkaggi.CE

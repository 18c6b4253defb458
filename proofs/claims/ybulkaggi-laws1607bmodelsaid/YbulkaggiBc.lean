import Derived.Test.YbulkaggiBb
namespace Go.Proofs.Ybulkaggi.BM
open Go.RowKit Go.Proofs.Ybulkaggi
open Go.Proofs.Ybulkaggi.CE (hlt tag_ne rgOf afOf)
set_option linter.unusedVariables false
set_option maxRecDepth 100000

def isTmp (k : Nat) : Operand → Bool
  | .tmp i => i == k
  | _ => false
/-- The first branch of the test on a slot. -/
def thnOf (k : Nat) : Code → Option Code
  | .cond c a b => if isTmp k c then some a else (thnOf k a).or (thnOf k b)
  | .seq a b => (thnOf k a).or (thnOf k b)
  | .loop c => thnOf k c
  | .block _ c => thnOf k c
  | .scope c => thnOf k c
  | _ => none
def thOf (b : Option Code) (k : Nat) : Code := (b.bind (thnOf k)).getD .skip

set_option maxHeartbeats 4000000 in
theorem evA {QQ : Exit → Act → World → Prop} {X g n c gx ox cx nA i k p kk by_ sb : Nat} {aR bR bW pd wb nr ra : Bool} {W : World} {y1 y2 y3 y6 y15 y16 y17 y18 y19 y20 y21 y22 y23 y24 y25 y26 y27 y28 y29 y30 y31 y32 y33 y34 y35 y36 y37 y38 y39 y40 y41 y42 y43 y44 y45 y46 y47 y48 y49 y50 y51 y52 y53 y54 y55 y56 y57 y58 y59 y60 y61 y62 y63 y64 y65 y66 y67 y68 y69 y70 y71 y72 y73 y74 y75 y76 y77 y78 y79 y80 y81 y82 y83 y84 y85 y86 y87 y88 y89 y90 y91 y92 y93 y94 y95 y96 y97 y98 y99 y100 y101 y102 y103 y104 y105 y106 y107 y108 y109 y110 y111 y112 y113 y114 y115 y116 y117 y118 y119 y120 y121 y122 y123 y124 y125 y126 : Value}
    (x1 : W.cell? ⟨X, 1, none⟩ = some (.slice (some ⟨gx, ox, none⟩) nA cx)) (pa : W.cell? ⟨gx, ox + i, none⟩ = some (.int .i64 (p : Int))) (hi : i < nA) (hnA : nA ≤ 256) (hp : p < n) (hn : n ≤ 256) (oa : W.cell? ⟨g, p * 3, none⟩ = some (.string (actB kk))) (hkk : kk ≤ 2)
    (y0 : W.cell? ⟨X + 1, 0, none⟩ = some (Pp by_)) (yb : W.cell? ⟨by_, 3, none⟩ = some (.int .i64 (sb : Int))) (c1 : W.cell? ⟨X + 1 + 1 + 1, 1, none⟩ = some (.bool nr)) (c3 : W.cell? ⟨X + 1 + 1 + 1, 3, none⟩ = some (.bool ra)) (z1 : W.frozen? ⟨X + 1 + 1 + 1, 1, none⟩ = false) (z3 : W.frozen? ⟨X + 1 + 1 + 1, 3, none⟩ = false) (ly : by_ < X)
    (hW : kk = 2 → ∀ (t16 t55 t56 t57 t58 t59 t60 t61 t62 t63 t64 t65 t66 t67 t68 t69 t70 t71 t72 t73 t74 t75 t76 t77 t78 t79 t80 t81 t82 t83 t84 t85 t86 t87 t88 t89 t90 t91 t92 t93 t94 t95 t96 : Value), QQ (.exit 1) { tmps := List.toArray ((.slice (some ⟨g, 0, none⟩) n c) :: y1 :: y2 :: y3 :: (Pp X) :: (Pp (X + 1)) :: y6 :: (Pp (X + 1 + 1 + 1)) :: (.bool aR) :: (.bool bR) :: (.bool bW) :: (.bool (pd || bR)) :: (.bool wb) :: (.int .i64 ((i : Int) + 1)) :: (.int .i64 (k : Int)) :: (.int .i64 (p : Int)) :: (t16) :: y17 :: y18 :: y19 :: y20 :: y21 :: y22 :: y23 :: y24 :: y25 :: y26 :: y27 :: y28 :: y29 :: y30 :: y31 :: y32 :: y33 :: y34 :: y35 :: y36 :: y37 :: y38 :: y39 :: y40 :: y41 :: y42 :: y43 :: y44 :: y45 :: y46 :: y47 :: y48 :: y49 :: y50 :: y51 :: y52 :: y53 :: y54 :: (t55) :: (t56) :: (t57) :: (t58) :: (t59) :: (t60) :: (t61) :: (t62) :: (t63) :: (t64) :: (t65) :: (t66) :: (t67) :: (t68) :: (t69) :: (t70) :: (t71) :: (t72) :: (t73) :: (t74) :: (t75) :: (t76) :: (t77) :: (t78) :: (t79) :: (t80) :: (t81) :: (t82) :: (t83) :: (t84) :: (t85) :: (t86) :: (t87) :: (t88) :: (t89) :: (t90) :: (t91) :: (t92) :: (t93) :: (t94) :: (t95) :: (t96) :: y97 :: y98 :: y99 :: y100 :: y101 :: y102 :: y103 :: y104 :: y105 :: y106 :: y107 :: y108 :: y109 :: y110 :: y111 :: y112 :: y113 :: y114 :: y115 :: y116 :: y117 :: y118 :: y119 :: y120 :: y121 :: y122 :: y123 :: y124 :: y125 :: y126 :: []), defers := [] } W)
    (hR : kk ≤ 1 → ∀ (t16 t55 t56 t57 t58 t59 t60 t61 t62 t63 t64 t65 t66 t67 t68 t69 t70 t71 t72 t73 t74 t75 t76 t77 t78 t79 t80 t81 t82 t83 t84 t85 t86 t87 t88 t89 t90 t91 t92 t93 t94 t95 t96 : Value), QQ (.exit 1) { tmps := List.toArray ((.slice (some ⟨g, 0, none⟩) n c) :: y1 :: y2 :: y3 :: (Pp X) :: (Pp (X + 1)) :: y6 :: (Pp (X + 1 + 1 + 1)) :: (.bool true) :: (.bool bR) :: (.bool bW) :: (.bool pd) :: (.bool false) :: (.int .i64 ((i : Int) + 1)) :: (.int .i64 (k : Int)) :: (.int .i64 (p : Int)) :: (t16) :: y17 :: y18 :: y19 :: y20 :: y21 :: y22 :: y23 :: y24 :: y25 :: y26 :: y27 :: y28 :: y29 :: y30 :: y31 :: y32 :: y33 :: y34 :: y35 :: y36 :: y37 :: y38 :: y39 :: y40 :: y41 :: y42 :: y43 :: y44 :: y45 :: y46 :: y47 :: y48 :: y49 :: y50 :: y51 :: y52 :: y53 :: y54 :: (t55) :: (t56) :: (t57) :: (t58) :: (t59) :: (t60) :: (t61) :: (t62) :: (t63) :: (t64) :: (t65) :: (t66) :: (t67) :: (t68) :: (t69) :: (t70) :: (t71) :: (t72) :: (t73) :: (t74) :: (t75) :: (t76) :: (t77) :: (t78) :: (t79) :: (t80) :: (t81) :: (t82) :: (t83) :: (t84) :: (t85) :: (t86) :: (t87) :: (t88) :: (t89) :: (t90) :: (t91) :: (t92) :: (t93) :: (t94) :: (t95) :: (t96) :: y97 :: y98 :: y99 :: y100 :: y101 :: y102 :: y103 :: y104 :: y105 :: y106 :: y107 :: y108 :: y109 :: y110 :: y111 :: y112 :: y113 :: y114 :: y115 :: y116 :: y117 :: y118 :: y119 :: y120 :: y121 :: y122 :: y123 :: y124 :: y125 :: y126 :: []), defers := [] } ((W.setCell ⟨X + 1 + 1 + 1, 1, none⟩ (.bool (nr || (wb && decide (p < sb))))).setCell ⟨X + 1 + 1 + 1, 3, none⟩ (.bool (ra || (bW && decide (p < sb)))))) :
    Code.wp Yba.prog (thOf Yba.f33.body 54) QQ { tmps := List.toArray ((.slice (some ⟨g, 0, none⟩) n c) :: y1 :: y2 :: y3 :: (Pp X) :: (Pp (X + 1)) :: y6 :: (Pp (X + 1 + 1 + 1)) :: (.bool aR) :: (.bool bR) :: (.bool bW) :: (.bool pd) :: (.bool wb) :: (.int .i64 (i : Int)) :: (.int .i64 (k : Int)) :: y15 :: y16 :: y17 :: y18 :: y19 :: y20 :: y21 :: y22 :: y23 :: y24 :: y25 :: y26 :: y27 :: y28 :: y29 :: y30 :: y31 :: y32 :: y33 :: y34 :: y35 :: y36 :: y37 :: y38 :: y39 :: y40 :: y41 :: y42 :: y43 :: y44 :: y45 :: y46 :: y47 :: y48 :: y49 :: y50 :: y51 :: y52 :: y53 :: y54 :: y55 :: y56 :: y57 :: y58 :: y59 :: y60 :: y61 :: y62 :: y63 :: y64 :: y65 :: y66 :: y67 :: y68 :: y69 :: y70 :: y71 :: y72 :: y73 :: y74 :: y75 :: y76 :: y77 :: y78 :: y79 :: y80 :: y81 :: y82 :: y83 :: y84 :: y85 :: y86 :: y87 :: y88 :: y89 :: y90 :: y91 :: y92 :: y93 :: y94 :: y95 :: y96 :: y97 :: y98 :: y99 :: y100 :: y101 :: y102 :: y103 :: y104 :: y105 :: y106 :: y107 :: y108 :: y109 :: y110 :: y111 :: y112 :: y113 :: y114 :: y115 :: y116 :: y117 :: y118 :: y119 :: y120 :: y121 :: y122 :: y123 :: y124 :: y125 :: y126 :: []), defers := [] } W := by
  have HW := hide hW
  have HR := hide hR
  have hi' : (i : Int) < (nA : Int) := by omega
  have hp' : (p : Int) < (n : Int) := by omega
  clear hW hR
  by_cases h2 : kk = 2
  · have HW2 := hide (HW.out h2)
    clear HW HR
    subst h2
    simp only [actB] at oa
    conv => arg 2; whnf
    cases pd
    all_goals (
      go_wp2
      exact HW2.out _ _ _ _ _ _ _ _ _ _ _ _ _ _ _ _ _ _ _ _ _ _ _ _ _ _ _ _ _ _ _ _ _ _ _ _ _ _ _ _ _ _ _)
  · have hn3 : ((actB kk).toList == [119]) = false := by
      simp only [beq_eq_false_iff_ne]
      exact fun e => h2 ((actB_L (by omega) (show 2 < 6 by decide)).1 (e.trans (by rw [ByteArray.toList_eq]; rfl)))
    have HR2 := hide (HR.out (by omega))
    clear HR HW
    conv => arg 2; whnf
    cases nr <;> cases wb <;> cases ra <;> cases bW
    all_goals (
      go_wp2
      exact HR2.out _ _ _ _ _ _ _ _ _ _ _ _ _ _ _ _ _ _ _ _ _ _ _ _ _ _ _ _ _ _ _ _ _ _ _ _ _ _ _ _ _ _ _)

set_option maxHeartbeats 4000000 in
theorem evB {KK : Act → World → Prop} {Q : Exit → Act → World → Prop} {X g n c gy oy cy nB i k p kk : Nat} {aR bR bW pd wb ls rb : Bool} {W : World} {y1 y2 y3 y6 y15 y16 y17 y18 y19 y20 y21 y22 y23 y24 y25 y26 y27 y28 y29 y30 y31 y32 y33 y34 y35 y36 y37 y38 y39 y40 y41 y42 y43 y44 y45 y46 y47 y48 y49 y50 y51 y52 y53 y54 y55 y56 y57 y58 y59 y60 y61 y62 y63 y64 y65 y66 y67 y68 y69 y70 y71 y72 y73 y74 y75 y76 y77 y78 y79 y80 y81 y82 y83 y84 y85 y86 y87 y88 y89 y90 y91 y92 y93 y94 y95 y96 y97 y98 y99 y100 y101 y102 y103 y104 y105 y106 y107 y108 y109 y110 y111 y112 y113 y114 y115 y116 y117 y118 y119 y120 y121 y122 y123 y124 y125 y126 : Value}
    (hKK : ∀ a w, Code.wp Yba.prog (afOf Yba.f33.body 15) Q a w → KK a w)
    (q1 : W.cell? ⟨X + 1, 1, none⟩ = some (.slice (some ⟨gy, oy, none⟩) nB cy)) (pb : W.cell? ⟨gy, oy + k, none⟩ = some (.int .i64 (p : Int))) (hk : k < nB) (hnB : nB ≤ 256) (hp : p < n) (hn : n ≤ 256) (oa : W.cell? ⟨g, p * 3, none⟩ = some (.string (actB kk))) (hkk : kk ≤ 2)
    (c0 : W.cell? ⟨X + 1 + 1 + 1, 0, none⟩ = some (.bool ls)) (c2 : W.cell? ⟨X + 1 + 1 + 1, 2, none⟩ = some (.bool rb)) (z0 : W.frozen? ⟨X + 1 + 1 + 1, 0, none⟩ = false) (z2 : W.frozen? ⟨X + 1 + 1 + 1, 2, none⟩ = false)
    (hR : kk ≤ 1 → ∀ (t97 t98 t99 t100 t101 t102 t103 t104 t105 t106 t107 t108 t109 t110 t111 t112 t113 t114 t115 t116 t117 t118 t119 t120 t121 t122 t123 t124 t125 : Value), Q (.exit 1) { tmps := List.toArray ((.slice (some ⟨g, 0, none⟩) n c) :: y1 :: y2 :: y3 :: (Pp X) :: (Pp (X + 1)) :: y6 :: (Pp (X + 1 + 1 + 1)) :: (.bool aR) :: (.bool true) :: (.bool bW) :: (.bool false) :: (.bool wb) :: (.int .i64 (i : Int)) :: (.int .i64 ((k : Int) + 1)) :: y15 :: y16 :: (.int .i64 (p : Int)) :: y18 :: y19 :: y20 :: y21 :: y22 :: y23 :: y24 :: y25 :: y26 :: y27 :: y28 :: y29 :: y30 :: y31 :: y32 :: y33 :: y34 :: y35 :: y36 :: y37 :: y38 :: y39 :: y40 :: y41 :: y42 :: y43 :: y44 :: y45 :: y46 :: y47 :: y48 :: y49 :: y50 :: y51 :: y52 :: y53 :: y54 :: y55 :: y56 :: y57 :: y58 :: y59 :: y60 :: y61 :: y62 :: y63 :: y64 :: y65 :: y66 :: y67 :: y68 :: y69 :: y70 :: y71 :: y72 :: y73 :: y74 :: y75 :: y76 :: y77 :: y78 :: y79 :: y80 :: y81 :: y82 :: y83 :: y84 :: y85 :: y86 :: y87 :: y88 :: y89 :: y90 :: y91 :: y92 :: y93 :: y94 :: y95 :: y96 :: (t97) :: (t98) :: (t99) :: (t100) :: (t101) :: (t102) :: (t103) :: (t104) :: (t105) :: (t106) :: (t107) :: (t108) :: (t109) :: (t110) :: (t111) :: (t112) :: (t113) :: (t114) :: (t115) :: (t116) :: (t117) :: (t118) :: (t119) :: (t120) :: (t121) :: (t122) :: (t123) :: (t124) :: (t125) :: y126 :: []), defers := [] } W)
    (hW : kk = 2 → ∀ (t97 t98 t99 t100 t101 t102 t103 t104 t105 t106 t107 t108 t109 t110 t111 t112 t113 t114 t115 t116 t117 t118 t119 t120 t121 t122 t123 t124 t125 : Value), Q .normal { tmps := List.toArray ((.slice (some ⟨g, 0, none⟩) n c) :: y1 :: y2 :: y3 :: (Pp X) :: (Pp (X + 1)) :: y6 :: (Pp (X + 1 + 1 + 1)) :: (.bool aR) :: (.bool bR) :: (.bool true) :: (.bool pd) :: (.bool (wb || aR)) :: (.int .i64 (i : Int)) :: (.int .i64 ((k : Int) + 1)) :: y15 :: y16 :: (.int .i64 (p : Int)) :: y18 :: y19 :: y20 :: y21 :: y22 :: y23 :: y24 :: y25 :: y26 :: y27 :: y28 :: y29 :: y30 :: y31 :: y32 :: y33 :: y34 :: y35 :: y36 :: y37 :: y38 :: y39 :: y40 :: y41 :: y42 :: y43 :: y44 :: y45 :: y46 :: y47 :: y48 :: y49 :: y50 :: y51 :: y52 :: y53 :: y54 :: y55 :: y56 :: y57 :: y58 :: y59 :: y60 :: y61 :: y62 :: y63 :: y64 :: y65 :: y66 :: y67 :: y68 :: y69 :: y70 :: y71 :: y72 :: y73 :: y74 :: y75 :: y76 :: y77 :: y78 :: y79 :: y80 :: y81 :: y82 :: y83 :: y84 :: y85 :: y86 :: y87 :: y88 :: y89 :: y90 :: y91 :: y92 :: y93 :: y94 :: y95 :: y96 :: (t97) :: (t98) :: (t99) :: (t100) :: (t101) :: (t102) :: (t103) :: (t104) :: (t105) :: (t106) :: (t107) :: (t108) :: (t109) :: (t110) :: (t111) :: (t112) :: (t113) :: (t114) :: (t115) :: (t116) :: (t117) :: (t118) :: (t119) :: (t120) :: (t121) :: (t122) :: (t123) :: (t124) :: (t125) :: y126 :: []), defers := [] } ((W.setCell ⟨X + 1 + 1 + 1, 0, none⟩ (.bool (ls || pd))).setCell ⟨X + 1 + 1 + 1, 2, none⟩ (.bool (rb || aR)))) :
    Code.wp Yba.prog (rgOf Yba.f33.body 15) (Exit.then KK Q) { tmps := List.toArray ((.slice (some ⟨g, 0, none⟩) n c) :: y1 :: y2 :: y3 :: (Pp X) :: (Pp (X + 1)) :: y6 :: (Pp (X + 1 + 1 + 1)) :: (.bool aR) :: (.bool bR) :: (.bool bW) :: (.bool pd) :: (.bool wb) :: (.int .i64 (i : Int)) :: (.int .i64 (k : Int)) :: y15 :: y16 :: y17 :: y18 :: y19 :: y20 :: y21 :: y22 :: y23 :: y24 :: y25 :: y26 :: y27 :: y28 :: y29 :: y30 :: y31 :: y32 :: y33 :: y34 :: y35 :: y36 :: y37 :: y38 :: y39 :: y40 :: y41 :: y42 :: y43 :: y44 :: y45 :: y46 :: y47 :: y48 :: y49 :: y50 :: y51 :: y52 :: y53 :: y54 :: y55 :: y56 :: y57 :: y58 :: y59 :: y60 :: y61 :: y62 :: y63 :: y64 :: y65 :: y66 :: y67 :: y68 :: y69 :: y70 :: y71 :: y72 :: y73 :: y74 :: y75 :: y76 :: y77 :: y78 :: y79 :: y80 :: y81 :: y82 :: y83 :: y84 :: y85 :: y86 :: y87 :: y88 :: y89 :: y90 :: y91 :: y92 :: y93 :: y94 :: y95 :: y96 :: y97 :: y98 :: y99 :: y100 :: y101 :: y102 :: y103 :: y104 :: y105 :: y106 :: y107 :: y108 :: y109 :: y110 :: y111 :: y112 :: y113 :: y114 :: y115 :: y116 :: y117 :: y118 :: y119 :: y120 :: y121 :: y122 :: y123 :: y124 :: y125 :: y126 :: []), defers := [] } W := by
  have HW := hide hW
  have HR := hide hR
  have HKK := hide hKK
  have hk' : (k : Int) < (nB : Int) := by omega
  have hp' : (p : Int) < (n : Int) := by omega
  have C64 := hide (isRead_any kk (by omega))
  clear hW hR hKK
  conv => arg 2; whnf
  go_wp2_with fail
  refine HKK.out _ _ ?_
  conv => arg 2; whnf
  by_cases h2 : kk = 2
  · have HW2 := hide (HW.out h2)
    rw [h2] at C64
    clear HW HR
    cases ls <;> cases rb <;> cases wb
    all_goals (
      go_wp2_with (go_at_call 64; refine (C64.out _).mono ?_; rintro e w' ⟨rfl, hw⟩; obtain rfl := hw.symm)
      exact HW2.out _ _ _ _ _ _ _ _ _ _ _ _ _ _ _ _ _ _ _ _ _ _ _ _ _ _ _ _ _)
  · have HR2 := hide (HR.out (by omega))
    have hd : decide (kk ≤ 1) = true := decide_eq_true (by omega)
    rw [hd] at C64
    clear HW HR hd
    go_wp2_with (go_at_call 64; refine (C64.out _).mono ?_; rintro e w' ⟨rfl, hw⟩; obtain rfl := hw.symm)
    exact HR2.out _ _ _ _ _ _ _ _ _ _ _ _ _ _ _ _ _ _ _ _ _ _ _ _ _ _ _ _ _

end Go.Proofs.Ybulkaggi.BM

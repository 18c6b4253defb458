import Derived.Test.YbulkagfuFmtH5
namespace Go.Proofs.YbulkagfuFmt
open Go.RowKit Go.WideMaps Go.Maps Go.Extern.Stop Go.Stop Go.Extern Go.MuLone
set_option linter.unusedVariables false
set_option maxRecDepth 100000

theorem makeMap24 (w : World) (n : Nat) : (Instr.makeMap 24 (some (.int .i64 (n : Int)))).run Ybaf.prog w = .ok (.map (some w.heap.size)) (w.alloc (.map #[] 0)) := by
  rfl
theorem info40 : (Ybaf.prog.info? 40).map (fun i => (i.zero, i.size, i.bytes)) = some (some (.pointer none), 1, 8) := by kernel_rfl
theorem make39 (w : World) (l : Nat) (hl : l ≤ 4) : (Instr.makeSlice 39 (.int .i64 (l : Int)) (.int .i64 (l : Int))).run Ybaf.prog w = .ok (.slice (some ⟨w.heap.size, 0, none⟩) l l) (w.alloc (.cells (madeCells #[Value.pointer none] l) 40)) := by
  obtain ⟨i0, hi0, hz0, hz1, hz2⟩ := info_at info40
  have := run_makeSlice w 39 40 i0 (.pointer none) Ybaf.underlying39 hi0 hz0 .i64 .i64 (l : Int) (l : Int) (by omega) (by omega) (by rw [hz1]; simp; omega) (by rw [hz2]; omega) (by omega)
  rw [hz1] at this
  simpa [Value.cells] using this

theorem part_len (lens : Int) (i j n : Nat) : (part (TF lens i) n [] j).length ≤ 3 := by
  unfold part
  split
  · rw [TF_len]; exact lN_le lens i j
  · simp
theorem T_ok (marks lens m : Int) (n c i j : Nat) (hcn : c < n) (hj : j < n) :
    (if part (mkF marks i) n false c = true then part (TF lens i) n [] else upd (part (TF lens i) n []) c (part (TF lens i) n [] c ++ [m])) j = if j = c ∧ mkF marks i j = false then TF lens i j ++ [m] else TF lens i j := by
  have e1 : part (mkF marks i) n false c = mkF marks i c := by simp [part, hcn]
  have e2 : part (TF lens i) n [] c = TF lens i c := by simp [part, hcn]
  have e3 : part (TF lens i) n [] j = TF lens i j := by simp [part, hj]
  rw [e1, e2]
  by_cases ej : j = c
  · subst ej
    cases h : mkF marks i j <;> simp [upd, e3]
  · cases h : mkF marks i c <;> simp [upd, ej, e3]

set_option maxHeartbeats 8000000 in
theorem records_any (F : Interp) (nch ks sel marks lens m : Int) (W : World) (hF : F.answers W.tape) (hn0 : 0 ≤ nch) (hn1 : nch ≤ 255) (hk0 : 0 ≤ ks) (hk1 : ks ≤ 255) (hs0 : 0 ≤ sel) (hs1 : sel ≤ 255)
    (hm0 : 0 ≤ marks) (hm1 : marks < 18446744073709551616) (hl0 : 0 ≤ lens) (hl1 : lens < 18446744073709551616) :
    Calls Ybaf.prog 3 #[.int .u8 nch, .int .u8 ks, .int .u8 sel, .int .u64 marks, .int .u64 lens, .int .i64 m] W fun e w' => e = .returned (.bool true) ∧ Below W.heap.size W w' := by
  obtain ⟨n, en, hn⟩ : ∃ n : Nat, nch % 5 = (n : Int) ∧ n ≤ 4 := ⟨(nch % 5).toNat, by omega, by omega⟩
  obtain ⟨kk, ek, hkk⟩ : ∃ n : Nat, ks % 5 = (n : Int) ∧ n ≤ 4 := ⟨(ks % 5).toNat, by omega, by omega⟩
  obtain ⟨c, ec, hc⟩ : ∃ c : Nat, sel % ((n : Int) + 1) = (c : Int) ∧ c ≤ n := by
    have h1 := Int.emod_nonneg sel (show (n : Int) + 1 ≠ 0 by omega)
    have h2 := Int.emod_lt_of_pos sel (show 0 < (n : Int) + 1 by omega)
    exact ⟨(sel % ((n : Int) + 1)).toNat, by omega, by omega⟩
  go_enter Ybaf.func3, Ybaf.ntmps3
  go_upto_region 4 with fail
  rw [en, ek]
  have hN0 := heap_alloc_new W (.cells namesC 23)
  have hB0 : Below W.heap.size W (W.alloc (.cells namesC 23)) := (Below.refl _ W).alloc (Nat.le_refl _) _
  have hS0 : (W.alloc (.cells namesC 23)).heap.size = W.heap.size + 1 := by simp
  generalize W.alloc (.cells namesC 23) = W1 at hN0 hB0 hS0 ⊢
  have k1 := makeMap24 W1 n
  have hI1 := World.ownsMap_made (H := Unit) W1 Ybaf.prog 9 (plainElem Ybaf.prog 3)
  have hN1 := (Below.heap_alloc W1 (.map #[] 0) W.heap.size (by omega)).trans hN0
  have hB1 := hB0.alloc (by omega) (.map #[] 0)
  have hS1 : (W1.alloc (.map #[] 0)).heap.size = W.heap.size + 1 + 1 := by simp [hS0]
  rw [hS0] at hI1 k1
  go_upto_region 6 with fail
  generalize W1.alloc (.map #[] 0) = W2 at hI1 hN1 hB1 hS1 k1 ⊢
  clear hN0 hB0 hS0 k1
  refine loop1 hn hN1 hI1 ?_
  intro t17 t51 t52 t53 t54 t55 t56 t57 t58 t59 t60 W3 hI3 hBut3
  have hN3 := (hBut3.block W.heap.size (by omega) (by omega)).trans hN1
  have hB3 : Below W.heap.size W W3 := hBut3.below hB1 (fun k hk => by omega) (by omega)
  have hS3 := hBut3.size
  rw [hS1] at hS3
  clear hBut3 hN1 hB1 hI1 hS1
  go_upto_region 10 with fail
  have hsL := heap_alloc_new W3 (.cells (snapC 0 ⟨#[112]⟩ (some (W.heap.size + 1)) none) 38)
  have hN4 := (Below.heap_alloc W3 (.cells (snapC 0 ⟨#[112]⟩ (some (W.heap.size + 1)) none) 38) W.heap.size (by omega)).trans hN3
  have hI4 := hI3.alloc (.cells (snapC 0 ⟨#[112]⟩ (some (W.heap.size + 1)) none) 38)
  have hB4 := hB3.alloc (by omega) (.cells (snapC 0 ⟨#[112]⟩ (some (W.heap.size + 1)) none) 38)
  have hS4 : (W3.alloc (.cells (snapC 0 ⟨#[112]⟩ (some (W.heap.size + 1)) none) 38)).heap.size = W3.heap.size + 1 := by simp
  generalize W3.alloc (.cells (snapC 0 ⟨#[112]⟩ (some (W.heap.size + 1)) none) 38) = W4 at hsL hN4 hI4 hB4 hS4 ⊢
  clear hN3 hI3 hB3
  by_cases hk : kk = 0
  · have hk' : ¬ (0 : Int) < (kk : Int) := by omega
    have k3 := make39 W4 kk hkk
    have hrbL := heap_alloc_new W4 (.cells (madeCells #[Value.pointer none] kk) 40)
    have hNL := (Below.heap_alloc W4 (.cells (madeCells #[Value.pointer none] kk) 40) W.heap.size (by omega)).trans hN4
    have hIL := hI4.alloc (.cells (madeCells #[Value.pointer none] kk) 40)
    have hBL := hB4.alloc (by omega) (.cells (madeCells #[Value.pointer none] kk) 40)
    have hSL : (W4.alloc (.cells (madeCells #[Value.pointer none] kk) 40)).heap.size = W3.heap.size + 1 + 1 := by simp [hS4]
    replace hsL := (Below.heap_alloc W4 (.cells (madeCells #[Value.pointer none] kk) 40) W3.heap.size (by omega)).trans hsL
    rw [hS4] at hrbL k3
    have hk2 := hide hk
    clear hk
    go_upto_region 14 with fail
    generalize W4.alloc (.cells (madeCells #[Value.pointer none] kk) 40) = WL at hrbL hNL hIL hBL hSL hsL k3 ⊢
    replace hk := hk2.out
    clear k3 hN4 hI4 hB4
    refine loop2 (sb := W3.heap.size) (rb := (W3.heap.size + 1)) (mb := (W3.heap.size + 1)) (base := W.heap.size) (rm := none) hn hkk hm0 hm1 hl0 hl1 hsL hrbL (by simp [madeCells]) (fun h => by omega) (fun h => by omega) (by omega) ?_
    rintro t20 t21 t22 t23 t24 t25 t26 t27 t72 t73 t74 t75 t76 t77 t78 t79 t80 t81 t82 t83 t84 t85 t86 t87 t88 t89 t90 t91 t92 t93 t94 t95 t96 t97 t98 t99 t100 t101 t102 t103 t104 t105 t106 t107 t108 t109 t110 t111 t112 t113 t114 t115 t116 t117 t118 t119 t120 t121 t122 t123 t124 t125 t126 t127 t128 t129 t130 t131 t132 t133 t134 t135 t136 t137 t138 t139 t140 t141 t142 t143 t144 t145 t146 t147 t148 t149 t150 t151 t152 t153 t154 t155 WX ⟨R, M, K, B, hBu⟩
    have n1 : W3.heap.size ≠ (W3.heap.size + 1) := by omega
    have n2 : W3.heap.size ≠ (W3.heap.size + 1) := by omega
    have n3 : W.heap.size + 1 ≠ (W3.heap.size + 1) := by omega
    have n4 : W.heap.size + 1 ≠ (W3.heap.size + 1) := by omega
    have n5 : W.heap.size ≠ (W3.heap.size + 1) := by omega
    have n6 : W.heap.size ≠ (W3.heap.size + 1) := by omega
    have hsX := (hBu.but.block W3.heap.size (by omega) (by rintro (e | e) <;> omega)).trans hsL
    have hNX := (hBu.but.block W.heap.size (by omega) (by rintro (e | e) <;> omega)).trans hNL
    have hIX := ownsMap_keep hIL (hBu.but.block (W.heap.size + 1) (by omega) (by rintro (e | e) <;> omega))
    have hBX : Below W.heap.size W WX := hBu.but.below hBL (by rintro k (e | e) <;> omega) (by omega)
    have hSX := hBu.but.size
    obtain ⟨cs, q1, q2, q3⟩ := hBu.row
    have cN := (cell_at hNX c).trans (names_at c (by omega))
    have HBu := hide hBu
    have HN := hide hNX
    have HB := hide hBX
    clear hBu hNX hBX hNL hIL hsL hrbL hBL
    go_upto_region 36 with fail
    rw [ec]
    go_upto_region 37 with fail
    by_cases hcn : c < n
    · obtain ⟨d1, d2⟩ := DN_hit n c hn hcn
      have hcI : ¬ (c : Int) = (n : Int) := by omega
      have HM := hide (message_nil W3.heap.size (W.heap.size + 1) n c W.heap.size (DN n) ⟨#[112]⟩ (nmB c) m WX hsX hIX (nmB_size c) d1 d2 (by omega) (by omega))
      clear hsX hIX d1 d2 HBu
      have hk2 := hide hk
      clear hk
      go_upto_region 44 with (go_at_call 5; refine HM.out.mono ?_; rintro e w' ⟨rfl, hFr⟩)
      have HE : Below W.heap.size W w' := HB.out.trans hFr.1
      refine loop5 (c := c) (m := m) (base := W.heap.size) (R := R) (M := M) (K := K) (T := fun a => part (TF lens a) n []) (B := B) (cs := cs) hn hkk hc hm0 hm1 hl0 hl1 (by rw [hk2.out]; exact ⟨fun a ha => absurd ha (by omega), fun a j a' j' k ha => absurd ha (by omega), fun a a' ha => absurd ha (by omega)⟩) (hFr.2 _ _ q1) q3 (fun i j hi hj => by have := hk2.out; omega) ?_
      intro t12 t31 t32 t33 t34 t35 t36 t37 t38 t39 t40 t41 t175 t176 t177 t178 t179 t180 t181 t182 t183 t184 t185 t186 t187 t188 t189 t190 t191 t192 t193 t194 t195 t196 t197 t198 t199 t200 t201 t202 t203 t204 t205 t206 t207 t208 t209 t210 t211 t212 t213 t214 t215 t216 t217 t218 t219 t220 t221 t222 t223 t224 t225 t226 t227 t228 t229 t230 t231 t232 t233 t234 t235 t236 t237 t238 t239 t240 t241 t242 t243 t244 t245 t246 t247 t248 t249 t250 t251 t252 t253 t254 t255 t256 t257 t258 t259 t260 t261 t262 t263 t264 t265 t266 t267 t268 t269 t270 t271 t272 t273 t274 t275 t276 t277 t278 t279 t280 t281 t282 t283 t284 t285 t286 t287 t288 t289 wy hO
      have HE' := hide (hO.below HE (fun k hk => hk.elim))
      clear hO HE hFr
      go_wp2
      go_ret
      exact ⟨rfl, HE'.out⟩
    · obtain rfl : c = n := by omega
      have HM := hide (message_err F W3.heap.size (W.heap.size + 1) c W.heap.size none (DN c) ⟨#[112]⟩ (nmB c) m WX (by rw [HB.out.tape]; exact hF) hsX hIX (nmB_size c) (DN_miss c c (by omega) (by omega)) (by omega) (by omega))
      have HX := hide hsX
      have hk2 := hide hk
      clear hk hsX hIX
      go_upto_region 44 with (go_at_call 5; refine HM.out.mono ?_; rintro e w' ⟨te, ve, rfl, hBe, hkp⟩)
      have HE : Below W.heap.size W w' := HB.out.trans hBe
      have hrbX : (W3.heap.size + 1) < WX.heap.size := (Array.getElem?_eq_some_iff.1 q1).1
      have hR' := HBu.out.recs.but (w' := w') (x := W3.heap.size) hkp (fun cs' t ht => by rw [HX.out] at ht; simp at ht; rw [← ht.2]; decide)
      refine loop5 (c := c) (m := m) (R := R) (M := M) (K := K) (B := B) (cs := cs) hn hkk hc hm0 hm1 hl0 hl1 hR' ((hkp _ hrbX (by omega)).trans q1) q3 (fun i j _ hj => by rw [if_neg (by omega)]; simp [part, hj]) ?_
      intro t12 t31 t32 t33 t34 t35 t36 t37 t38 t39 t40 t41 t175 t176 t177 t178 t179 t180 t181 t182 t183 t184 t185 t186 t187 t188 t189 t190 t191 t192 t193 t194 t195 t196 t197 t198 t199 t200 t201 t202 t203 t204 t205 t206 t207 t208 t209 t210 t211 t212 t213 t214 t215 t216 t217 t218 t219 t220 t221 t222 t223 t224 t225 t226 t227 t228 t229 t230 t231 t232 t233 t234 t235 t236 t237 t238 t239 t240 t241 t242 t243 t244 t245 t246 t247 t248 t249 t250 t251 t252 t253 t254 t255 t256 t257 t258 t259 t260 t261 t262 t263 t264 t265 t266 t267 t268 t269 t270 t271 t272 t273 t274 t275 t276 t277 t278 t279 t280 t281 t282 t283 t284 t285 t286 t287 t288 t289 wy hO
      have HE' := hide (hO.below HE (fun k hk => hk.elim))
      clear hO HE hR' hkp hBe
      go_wp2
      go_ret
      exact ⟨rfl, HE'.out⟩
  · have hk' : (0 : Int) < (kk : Int) := by omega
    have k2 := run_makeMap (P := Ybaf.prog) 35 W4
    have hs5 := (Below.heap_alloc W4 (.map #[] 0) W3.heap.size (by omega)).trans hsL
    have c5 := (cell_at hs5 7).trans rfl
    have z5 := free_at hs5 7
    have s5 : (W4.setCell ⟨W3.heap.size, 7, none⟩ (.map (some (W3.heap.size + 1)))).heap[W3.heap.size]? = some (.cells (snapC 0 ⟨#[112]⟩ (some (W.heap.size + 1)) (some (W3.heap.size + 1))) 38 (0, 0)) := (heap_setCell_same _ W3.heap.size 7 _ 38 _ hsL).trans rfl
    have N5 := (Below.heap_setCell W4 ⟨W3.heap.size, 7, none⟩ (.map (some (W3.heap.size + 1))) W.heap.size (by simp only; omega)).trans hN4
    have I5 := hI4.setCell (a := ⟨W3.heap.size, 7, none⟩) (by simp only; omega) (.map (some (W3.heap.size + 1)))
    have B5 := hB4.setCell (p := ⟨W3.heap.size, 7, none⟩) (by simp only; omega) (.map (some (W3.heap.size + 1)))
    have S5 : (W4.setCell ⟨W3.heap.size, 7, none⟩ (.map (some (W3.heap.size + 1)))).heap.size = W3.heap.size + 1 := by simpa [World.setCell] using hS4
    rw [hS4] at k2
    go_upto_region 12 with fail
    generalize W4.setCell ⟨W3.heap.size, 7, none⟩ (.map (some (W3.heap.size + 1))) = W5 at s5 N5 I5 B5 S5 ⊢
    clear k2 hs5 c5 z5 hN4 hI4 hB4 hsL
    have s6 := (Below.heap_alloc W5 (.map #[] 0) W3.heap.size (by omega)).trans s5
    have N6 := (Below.heap_alloc W5 (.map #[] 0) W.heap.size (by omega)).trans N5
    have I6 := I5.alloc (.map #[] 0)
    have B6 := B5.alloc (by omega) (.map #[] 0)
    have D6 := World.ownsMap_made (H := Unit) W5 Ybaf.prog 49 ptrElem
    have S6 : (W5.alloc (.map #[] 0)).heap.size = W3.heap.size + 1 + 1 := by simp [S5]
    rw [S5] at D6
    generalize W5.alloc (.map #[] 0) = W6 at s6 N6 I6 D6 B6 S6 ⊢
    clear s5 N5 I5 B5 S5
    have k3 := make39 W6 kk hkk
    have hrbL := heap_alloc_new W6 (.cells (madeCells #[Value.pointer none] kk) 40)
    have hNL := (Below.heap_alloc W6 (.cells (madeCells #[Value.pointer none] kk) 40) W.heap.size (by omega)).trans N6
    have hIL := I6.alloc (.cells (madeCells #[Value.pointer none] kk) 40)
    have hDL := D6.alloc (.cells (madeCells #[Value.pointer none] kk) 40)
    have hBL := B6.alloc (by omega) (.cells (madeCells #[Value.pointer none] kk) 40)
    have hSL : (W6.alloc (.cells (madeCells #[Value.pointer none] kk) 40)).heap.size = W3.heap.size + 1 + 1 + 1 := by simp [S6]
    have hsL := (Below.heap_alloc W6 (.cells (madeCells #[Value.pointer none] kk) 40) W3.heap.size (by omega)).trans s6
    rw [S6] at hrbL k3
    go_upto_region 14 with fail
    generalize W6.alloc (.cells (madeCells #[Value.pointer none] kk) 40) = WL at hrbL hNL hIL hDL hBL hSL hsL k3 ⊢
    clear k3 s6 N6 I6 D6 B6
    refine loop2 (sb := W3.heap.size) (rb := (W3.heap.size + 1 + 1)) (mb := (W3.heap.size + 1)) (base := W.heap.size) (rm := (some (W3.heap.size + 1))) hn hkk hm0 hm1 hl0 hl1 hsL hrbL (by simp [madeCells]) (fun _ => rfl) (fun _ => hDL) (by omega) ?_
    rintro t20 t21 t22 t23 t24 t25 t26 t27 t72 t73 t74 t75 t76 t77 t78 t79 t80 t81 t82 t83 t84 t85 t86 t87 t88 t89 t90 t91 t92 t93 t94 t95 t96 t97 t98 t99 t100 t101 t102 t103 t104 t105 t106 t107 t108 t109 t110 t111 t112 t113 t114 t115 t116 t117 t118 t119 t120 t121 t122 t123 t124 t125 t126 t127 t128 t129 t130 t131 t132 t133 t134 t135 t136 t137 t138 t139 t140 t141 t142 t143 t144 t145 t146 t147 t148 t149 t150 t151 t152 t153 t154 t155 WX ⟨R, M, K, B, hBu⟩
    have n1 : W3.heap.size ≠ (W3.heap.size + 1 + 1) := by omega
    have n2 : W3.heap.size ≠ (W3.heap.size + 1) := by omega
    have n3 : W.heap.size + 1 ≠ (W3.heap.size + 1 + 1) := by omega
    have n4 : W.heap.size + 1 ≠ (W3.heap.size + 1) := by omega
    have n5 : W.heap.size ≠ (W3.heap.size + 1 + 1) := by omega
    have n6 : W.heap.size ≠ (W3.heap.size + 1) := by omega
    have hsX := (hBu.but.block W3.heap.size (by omega) (by rintro (e | e) <;> omega)).trans hsL
    have hNX := (hBu.but.block W.heap.size (by omega) (by rintro (e | e) <;> omega)).trans hNL
    have hIX := ownsMap_keep hIL (hBu.but.block (W.heap.size + 1) (by omega) (by rintro (e | e) <;> omega))
    have hBX : Below W.heap.size W WX := hBu.but.below hBL (by rintro k (e | e) <;> omega) (by omega)
    have hSX := hBu.but.size
    obtain ⟨cs, q1, q2, q3⟩ := hBu.row
    have cN := (cell_at hNX c).trans (names_at c (by omega))
    have HBu := hide hBu
    have HN := hide hNX
    have HB := hide hBX
    clear hBu hNX hBX hNL hIL hsL hrbL hBL
    go_upto_region 36 with fail
    rw [ec]
    go_upto_region 37 with fail
    by_cases hcn : c < n
    · obtain ⟨d1, d2⟩ := DN_hit n c hn hcn
      have hcI : ¬ (c : Int) = (n : Int) := by omega
      have HM := hide (message_ok W3.heap.size (W.heap.size + 1) (W3.heap.size + 1) n kk n c W.heap.size (DN n) ⟨#[112]⟩ (nmB c) m R M K _ _ _ B WX hsX hIX (nmB_size c) d1 d2 (HBu.out.data (by omega)) HBu.out.recs hcn hn hkk (fun i j => part_len lens i j n) (by omega) (by omega) HBu.out.low)
      clear hsX hIX d1 d2 HBu
      go_upto_region 44 with (go_at_call 5; refine HM.out.mono ?_; rintro e w' ⟨rfl, hFr, B', hR'⟩)
      have HE : Below W.heap.size W w' := HB.out.trans hFr.1
      refine loop5 (c := c) (m := m) (R := R) (M := M) (K := K) (B := B') (cs := cs) hn hkk hc hm0 hm1 hl0 hl1 hR' (hFr.2 _ _ q1) q3 (fun i j _ hj => T_ok marks lens m n c i j hcn hj) ?_
      intro t12 t31 t32 t33 t34 t35 t36 t37 t38 t39 t40 t41 t175 t176 t177 t178 t179 t180 t181 t182 t183 t184 t185 t186 t187 t188 t189 t190 t191 t192 t193 t194 t195 t196 t197 t198 t199 t200 t201 t202 t203 t204 t205 t206 t207 t208 t209 t210 t211 t212 t213 t214 t215 t216 t217 t218 t219 t220 t221 t222 t223 t224 t225 t226 t227 t228 t229 t230 t231 t232 t233 t234 t235 t236 t237 t238 t239 t240 t241 t242 t243 t244 t245 t246 t247 t248 t249 t250 t251 t252 t253 t254 t255 t256 t257 t258 t259 t260 t261 t262 t263 t264 t265 t266 t267 t268 t269 t270 t271 t272 t273 t274 t275 t276 t277 t278 t279 t280 t281 t282 t283 t284 t285 t286 t287 t288 t289 wy hO
      have HE' := hide (hO.below HE (fun k hk => hk.elim))
      clear hO HE hFr hR'
      go_wp2
      go_ret
      exact ⟨rfl, HE'.out⟩
    · obtain rfl : c = n := by omega
      have HM := hide (message_err F W3.heap.size (W.heap.size + 1) c W.heap.size (some (W3.heap.size + 1)) (DN c) ⟨#[112]⟩ (nmB c) m WX (by rw [HB.out.tape]; exact hF) hsX hIX (nmB_size c) (DN_miss c c (by omega) (by omega)) (by omega) (by omega))
      have HX := hide hsX
      have hk2 := hide hk
      clear hk hsX hIX
      go_upto_region 44 with (go_at_call 5; refine HM.out.mono ?_; rintro e w' ⟨te, ve, rfl, hBe, hkp⟩)
      have HE : Below W.heap.size W w' := HB.out.trans hBe
      have hrbX : (W3.heap.size + 1 + 1) < WX.heap.size := (Array.getElem?_eq_some_iff.1 q1).1
      have hR' := HBu.out.recs.but (w' := w') (x := W3.heap.size) hkp (fun cs' t ht => by rw [HX.out] at ht; simp at ht; rw [← ht.2]; decide)
      refine loop5 (c := c) (m := m) (R := R) (M := M) (K := K) (B := B) (cs := cs) hn hkk hc hm0 hm1 hl0 hl1 hR' ((hkp _ hrbX (by omega)).trans q1) q3 (fun i j _ hj => by rw [if_neg (by omega)]; simp [part, hj]) ?_
      intro t12 t31 t32 t33 t34 t35 t36 t37 t38 t39 t40 t41 t175 t176 t177 t178 t179 t180 t181 t182 t183 t184 t185 t186 t187 t188 t189 t190 t191 t192 t193 t194 t195 t196 t197 t198 t199 t200 t201 t202 t203 t204 t205 t206 t207 t208 t209 t210 t211 t212 t213 t214 t215 t216 t217 t218 t219 t220 t221 t222 t223 t224 t225 t226 t227 t228 t229 t230 t231 t232 t233 t234 t235 t236 t237 t238 t239 t240 t241 t242 t243 t244 t245 t246 t247 t248 t249 t250 t251 t252 t253 t254 t255 t256 t257 t258 t259 t260 t261 t262 t263 t264 t265 t266 t267 t268 t269 t270 t271 t272 t273 t274 t275 t276 t277 t278 t279 t280 t281 t282 t283 t284 t285 t286 t287 t288 t289 wy hO
      have HE' := hide (hO.below HE (fun k hk => hk.elim))
      clear hO HE hR' hkp hBe
      go_wp2
      go_ret
      exact ⟨rfl, HE'.out⟩

end Go.Proofs.YbulkagfuFmt

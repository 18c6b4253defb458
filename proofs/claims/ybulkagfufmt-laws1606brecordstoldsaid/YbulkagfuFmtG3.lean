import Derived.Test.YbulkagfuFmtF9
namespace Go.Proofs.YbulkagfuFmt
open Go.RowKit Go.WideMaps Go.Maps Go.Extern.Stop Go.Stop Go.Extern Go.MuLone
set_option linter.unusedVariables false
set_option maxRecDepth 100000

theorem make46 (w : World) (l : Nat) (hl : l ≤ 4) : (Instr.makeSlice 46 (.int .i64 (l : Int)) (.int .i64 (l : Int))).run Ybaf.prog w = .ok (.slice (some ⟨w.heap.size, 0, none⟩) l l) (w.alloc (.cells (madeCells #[Value.int .i64 0] l) 3)) := by
  obtain ⟨i0, hi0, hz0, hz1, hz2⟩ := info_at info3
  have := run_makeSlice w 46 3 i0 (.int .i64 0) Ybaf.underlying46 hi0 hz0 .i64 .i64 (l : Int) (l : Int) (by omega) (by omega) (by rw [hz1]; simp; omega) (by rw [hz2]; omega) (by omega)
  rw [hz1] at this
  simpa [Value.cells] using this

set_option maxHeartbeats 4000000 in
theorem loop3 {QQ : Exit → Act → World → Prop} {i n r0 r mB kB : Nat} {marks lens : Int} {w : World} {B0 : Nat → Option Nat} {y0 y1 y2 y5 y6 y7 y8 y9 y10 y11 y12 y14 y15 y16 y17 y18 y19 y23 y24 y25 y26 y27 y28 y29 y30 y31 y32 y33 y34 y35 y36 y37 y38 y39 y40 y41 y42 y43 y44 y45 y46 y47 y48 y49 y50 y51 y52 y53 y54 y55 y56 y57 y58 y59 y60 y61 y62 y63 y64 y65 y66 y67 y68 y69 y70 y71 y72 y73 y74 y75 y76 y77 y78 y79 y80 y81 y82 y83 y84 y85 y86 y87 y88 y89 y90 y91 y92 y93 y94 y95 y96 y97 y98 y99 y100 y101 y102 y103 y104 y105 y106 y107 y108 y109 y110 y111 y112 y113 y114 y115 y116 y117 y118 y119 y120 y121 y122 y123 y124 y125 y126 y127 y128 y129 y130 y131 y132 y133 y134 y135 y136 y137 y138 y139 y140 y141 y142 y143 y144 y145 y146 y147 y148 y149 y150 y151 y152 y153 y154 y155 y156 y157 y158 y159 y160 y161 y162 y163 y164 y165 y166 y167 y168 y169 y170 y171 y172 y173 y174 y175 y176 y177 y178 y179 y180 y181 y182 y183 y184 y185 y186 y187 y188 y189 y190 y191 y192 y193 y194 y195 y196 y197 y198 y199 y200 y201 y202 y203 y204 y205 y206 y207 y208 y209 y210 y211 y212 y213 y214 y215 y216 y217 y218 y219 y220 y221 y222 y223 y224 y225 y226 y227 y228 y229 y230 y231 y232 y233 y234 y235 y236 y237 y238 y239 y240 y241 y242 y243 y244 y245 y246 y247 y248 y249 y250 y251 y252 y253 y254 y255 y256 y257 y258 y259 y260 y261 y262 y263 y264 y265 y266 y267 y268 y269 y270 y271 y272 y273 y274 y275 y276 y277 y278 y279 y280 y281 y282 y283 y284 y285 y286 y287 y288 y289 : Value}
    (hi : i < 4) (hn : n ≤ 4) (hm0 : 0 ≤ marks) (hm1 : marks < 18446744073709551616) (hl0 : 0 ≤ lens) (hl1 : lens < 18446744073709551616)
    (hrec : RecAt w r0 r mB kB n (fun _ => false) 0 (fun _ => []) B0) (hinj : ∀ a b k, a < n → b < n → B0 a = some k → B0 b = some k → a = b) (hb1 : r0 ≤ r) (hb2 : r0 ≤ mB) (hb3 : r0 ≤ kB) (hb4 : r0 ≤ w.heap.size)
    (hK : ∀ (t22 t23 t24 t25 t26 t27 t83 t84 t85 t86 t87 t88 t89 t90 t91 t92 t93 t94 t95 t96 t97 t98 t99 t100 t101 t102 t103 t104 t105 t106 t107 t108 t109 t110 t111 t112 t113 t114 t115 t116 t117 t118 t119 t120 t121 t122 t123 t124 t125 t126 t127 t128 t129 t130 t131 t132 t133 t134 t135 t136 t137 t138 t139 t140 t141 t142 : Value) (wx : World), (∃ B, RecAt wx r0 r mB kB n (part (mkF marks i) n false) (wtF marks i n : Nat) (part (TF lens i) n []) B ∧ (∀ a b k, a < n → b < n → B a = some k → B b = some k → a = b)) → Below r0 w wx → QQ (.exit 4) { tmps := List.toArray (y0 :: y1 :: y2 :: (.int .u64 marks) :: (.int .u64 lens) :: y5 :: y6 :: y7 :: y8 :: y9 :: y10 :: y11 :: y12 :: (.int .i64 (n : Int)) :: y14 :: y15 :: y16 :: y17 :: y18 :: y19 :: (.int .i64 (i : Int)) :: (.pointer (some ⟨r, 0, none⟩)) :: (t22) :: (t23) :: (t24) :: (t25) :: (t26) :: (t27) :: y28 :: y29 :: y30 :: y31 :: y32 :: y33 :: y34 :: y35 :: y36 :: y37 :: y38 :: y39 :: y40 :: y41 :: y42 :: y43 :: y44 :: y45 :: y46 :: y47 :: y48 :: y49 :: y50 :: y51 :: y52 :: y53 :: y54 :: y55 :: y56 :: y57 :: y58 :: y59 :: y60 :: y61 :: y62 :: y63 :: y64 :: y65 :: y66 :: y67 :: y68 :: y69 :: y70 :: y71 :: y72 :: y73 :: y74 :: y75 :: y76 :: y77 :: y78 :: y79 :: y80 :: y81 :: y82 :: (t83) :: (t84) :: (t85) :: (t86) :: (t87) :: (t88) :: (t89) :: (t90) :: (t91) :: (t92) :: (t93) :: (t94) :: (t95) :: (t96) :: (t97) :: (t98) :: (t99) :: (t100) :: (t101) :: (t102) :: (t103) :: (t104) :: (t105) :: (t106) :: (t107) :: (t108) :: (t109) :: (t110) :: (t111) :: (t112) :: (t113) :: (t114) :: (t115) :: (t116) :: (t117) :: (t118) :: (t119) :: (t120) :: (t121) :: (t122) :: (t123) :: (t124) :: (t125) :: (t126) :: (t127) :: (t128) :: (t129) :: (t130) :: (t131) :: (t132) :: (t133) :: (t134) :: (t135) :: (t136) :: (t137) :: (t138) :: (t139) :: (t140) :: (t141) :: (t142) :: y143 :: y144 :: y145 :: y146 :: y147 :: y148 :: y149 :: y150 :: y151 :: y152 :: y153 :: y154 :: y155 :: y156 :: y157 :: y158 :: y159 :: y160 :: y161 :: y162 :: y163 :: y164 :: y165 :: y166 :: y167 :: y168 :: y169 :: y170 :: y171 :: y172 :: y173 :: y174 :: y175 :: y176 :: y177 :: y178 :: y179 :: y180 :: y181 :: y182 :: y183 :: y184 :: y185 :: y186 :: y187 :: y188 :: y189 :: y190 :: y191 :: y192 :: y193 :: y194 :: y195 :: y196 :: y197 :: y198 :: y199 :: y200 :: y201 :: y202 :: y203 :: y204 :: y205 :: y206 :: y207 :: y208 :: y209 :: y210 :: y211 :: y212 :: y213 :: y214 :: y215 :: y216 :: y217 :: y218 :: y219 :: y220 :: y221 :: y222 :: y223 :: y224 :: y225 :: y226 :: y227 :: y228 :: y229 :: y230 :: y231 :: y232 :: y233 :: y234 :: y235 :: y236 :: y237 :: y238 :: y239 :: y240 :: y241 :: y242 :: y243 :: y244 :: y245 :: y246 :: y247 :: y248 :: y249 :: y250 :: y251 :: y252 :: y253 :: y254 :: y255 :: y256 :: y257 :: y258 :: y259 :: y260 :: y261 :: y262 :: y263 :: y264 :: y265 :: y266 :: y267 :: y268 :: y269 :: y270 :: y271 :: y272 :: y273 :: y274 :: y275 :: y276 :: y277 :: y278 :: y279 :: y280 :: y281 :: y282 :: y283 :: y284 :: y285 :: y286 :: y287 :: y288 :: y289 :: []), defers := [] } wx) :
    Code.wp Ybaf.prog (lpOf Ybaf.f3.body 2) QQ { tmps := List.toArray (y0 :: y1 :: y2 :: (.int .u64 marks) :: (.int .u64 lens) :: y5 :: y6 :: y7 :: y8 :: y9 :: y10 :: y11 :: y12 :: (.int .i64 (n : Int)) :: y14 :: y15 :: y16 :: y17 :: y18 :: y19 :: (.int .i64 (i : Int)) :: (.pointer (some ⟨r, 0, none⟩)) :: (.int .i64 0) :: y23 :: y24 :: y25 :: y26 :: y27 :: y28 :: y29 :: y30 :: y31 :: y32 :: y33 :: y34 :: y35 :: y36 :: y37 :: y38 :: y39 :: y40 :: y41 :: y42 :: y43 :: y44 :: y45 :: y46 :: y47 :: y48 :: y49 :: y50 :: y51 :: y52 :: y53 :: y54 :: y55 :: y56 :: y57 :: y58 :: y59 :: y60 :: y61 :: y62 :: y63 :: y64 :: y65 :: y66 :: y67 :: y68 :: y69 :: y70 :: y71 :: y72 :: y73 :: y74 :: y75 :: y76 :: y77 :: y78 :: y79 :: y80 :: y81 :: y82 :: y83 :: y84 :: y85 :: y86 :: y87 :: y88 :: y89 :: y90 :: y91 :: y92 :: y93 :: y94 :: y95 :: y96 :: y97 :: y98 :: y99 :: y100 :: y101 :: y102 :: y103 :: y104 :: y105 :: y106 :: y107 :: y108 :: y109 :: y110 :: y111 :: y112 :: y113 :: y114 :: y115 :: y116 :: y117 :: y118 :: y119 :: y120 :: y121 :: y122 :: y123 :: y124 :: y125 :: y126 :: y127 :: y128 :: y129 :: y130 :: y131 :: y132 :: y133 :: y134 :: y135 :: y136 :: y137 :: y138 :: y139 :: y140 :: y141 :: y142 :: y143 :: y144 :: y145 :: y146 :: y147 :: y148 :: y149 :: y150 :: y151 :: y152 :: y153 :: y154 :: y155 :: y156 :: y157 :: y158 :: y159 :: y160 :: y161 :: y162 :: y163 :: y164 :: y165 :: y166 :: y167 :: y168 :: y169 :: y170 :: y171 :: y172 :: y173 :: y174 :: y175 :: y176 :: y177 :: y178 :: y179 :: y180 :: y181 :: y182 :: y183 :: y184 :: y185 :: y186 :: y187 :: y188 :: y189 :: y190 :: y191 :: y192 :: y193 :: y194 :: y195 :: y196 :: y197 :: y198 :: y199 :: y200 :: y201 :: y202 :: y203 :: y204 :: y205 :: y206 :: y207 :: y208 :: y209 :: y210 :: y211 :: y212 :: y213 :: y214 :: y215 :: y216 :: y217 :: y218 :: y219 :: y220 :: y221 :: y222 :: y223 :: y224 :: y225 :: y226 :: y227 :: y228 :: y229 :: y230 :: y231 :: y232 :: y233 :: y234 :: y235 :: y236 :: y237 :: y238 :: y239 :: y240 :: y241 :: y242 :: y243 :: y244 :: y245 :: y246 :: y247 :: y248 :: y249 :: y250 :: y251 :: y252 :: y253 :: y254 :: y255 :: y256 :: y257 :: y258 :: y259 :: y260 :: y261 :: y262 :: y263 :: y264 :: y265 :: y266 :: y267 :: y268 :: y269 :: y270 :: y271 :: y272 :: y273 :: y274 :: y275 :: y276 :: y277 :: y278 :: y279 :: y280 :: y281 :: y282 :: y283 :: y284 :: y285 :: y286 :: y287 :: y288 :: y289 :: []), defers := [] } w := by
  have HK := hide hK
  clear hK
  conv => arg 2; whnf
  go_loopw [22] (fun v wx => ∃ j : Nat, j ≤ n ∧ v = .int .i64 (j : Int) ∧ (∃ B, RecAt wx r0 r mB kB n (part (mkF marks i) j false) (wtF marks i j : Nat) (part (TF lens i) j []) B ∧ (∀ a b k, a < n → b < n → B a = some k → B b = some k → a = b)) ∧ Below r0 w wx) (fun v _ => n - (intOf v).toNat)
  case atStart => exact ⟨0, by omega, rfl, ⟨B0, by simpa [part_zero, wtF] using hrec, hinj⟩, Below.refl _ _⟩
  case round =>
    obtain ⟨j, hj, rfl, ⟨B, h1, h2⟩, h3⟩ := hrel
    by_cases hjn : j < n
    · have hjn' : (j : Int) < (n : Int) := by omega
      obtain ⟨ks, hk1, hk2⟩ := h1.mrk
      obtain ⟨ms, hm1', hm2'⟩ := h1.msg
      have c1 := (cell_at h1.self 2).trans rfl
      have c2 := (cell_at hk1 j).trans (hk2 j hjn)
      have z2 := free_at hk1 j
      have hR1 := h1.mark hjn (mkF marks i j)
      rw [part_upd] at hR1
      have hB1 : Below r0 w (wr.setCell ⟨kB, j, none⟩ (.bool (mkF marks i j))) := h3.setCell (p := ⟨kB, j, none⟩) hb3 _
      have H1 := hide hR1
      have H2 := hide hB1
      have H3 := hide h2
      clear hR1 hB1 h2 h1 h3 hk1 hm1'
      go_upto_region 23 with fail
      have hb : (bits BinOp.and IntKind.u64 (marks / 2 ^ (i * 4 + j)) 1 == 1) = mkF marks i j := rfl
      rw [hb]
      clear hb
      generalize wr.setCell ⟨kB, j, none⟩ (.bool (mkF marks i j)) = W1 at H1 H2 ⊢
      clear c1 c2 z2
      cases hmk : mkF marks i j
      · have hR1 := H1.out
        have c3 := (cell_at hR1.self 3).trans rfl
        have z3 := free_at hR1.self 3
        have hws : wtF marks i (j + 1) = wtF marks i j + 1 := by simp [wtF, hmk]
        have hR2 : RecAt (W1.setCell ⟨r, 3, none⟩ (.int .i64 ((wtF marks i j : Nat) + 1 : Int))) r0 r mB kB n (part (mkF marks i) (j + 1) false) (wtF marks i (j + 1) : Nat) (part (TF lens i) j []) B := by
          have := hR1.wait (((wtF marks i (j + 1) : Nat) : Int))
          rw [hws] at this ⊢
          simpa using this
        have hwle := wtF_le marks i j
        have hB2 := hide (H2.out.setCell (p := ⟨r, 3, none⟩) hb1 (.int .i64 ((wtF marks i j : Nat) + 1 : Int)))
        have H4 := hide hR2
        clear hR1 hR2 H1 H2
        go_upto_if 121 with fail
        generalize W1.setCell ⟨r, 3, none⟩ (.int .i64 ((wtF marks i j : Nat) + 1 : Int)) = W2 at H4 hB2 ⊢
        clear c3 z3
        have hl : bits BinOp.and IntKind.u64 (lens / 2 ^ (2 * (i * 4 + j))) 3 = (lN lens i j : Int) := lN_eq lens i j
        have hl3 := lN_le lens i j
        rw [hl]
        have hl' : wrap64 (lN lens i j : Int) = (lN lens i j : Int) := by unfold wrap64; omega
        rw [hl']
        clear hl hl'
        by_cases hz : lN lens i j = 0
        · have hT : TF lens i j = [] := by simp [TF, hz]
          have hz0 : ¬ (0 : Int) < (lN lens i j : Int) := by omega
          go_wp2
          go_roundw
          case rel => exact ⟨j + 1, by omega, by simp, ⟨B, by rw [← part_skip _ _ _ hT]; exact H4.out, H3.out⟩, hB2.out⟩
          case measure => simp [intOf]; omega
        · have hlp : (0 : Int) < (lN lens i j : Int) := by omega
          have hmk46 := make46 W2 (lN lens i j) (by omega)
          go_upto_region 28 with fail
          have hg0 := heap_alloc_new W2 (.cells (madeCells #[Value.int .i64 0] (lN lens i j)) 3 (0, 0))
          have hO : (madeCells #[Value.int .i64 0] (lN lens i j)).size = lN lens i j := by simp [madeCells]
          generalize madeCells #[Value.int .i64 0] (lN lens i j) = O at hg0 hO ⊢
          clear hmk46
          go_upto_region 29 with fail
          refine loop4 (i := i) (j := j) (l := lN lens i j) (g := W2.heap.size) (by omega) (by omega) hl3 hg0 hO ?_
          rintro t27 t124 t125 t126 t127 t128 t129 t130 t131 t132 t133 t134 t135 wx ⟨cs, hcs, hcn, hcv⟩ hOnly
          have hsz : r0 ≤ W2.heap.size := Nat.le_trans hb4 hB2.out.size
          have hB3 : Below r0 w wx := hOnly.below (hB2.out.alloc hsz _) (fun k hk => by omega)
          have hR3 := H4.out.same (w' := wx) (fun k hk => (hOnly.block k (by omega)).trans (Below.heap_alloc _ _ _ hk))
          have hnew : wx.ownsRow r0 3 1 (.slice (some ⟨W2.heap.size, 0, none⟩) (lN lens i j) (lN lens i j)) (TF lens i j).length ((TF lens i j).map (Value.int .i64)) := by
            rw [TF_len]
            exact owns_new hsz hcs hcn hl3 hcv
          have hR4 := hR3.row hjn hnew
          rw [part_upd] at hR4
          have hin : ∀ a b k, a < n → b < n → upd B j (some W2.heap.size) a = some k → upd B j (some W2.heap.size) b = some k → a = b := by
            have hlt : ∀ a k, a < n → B a = some k → k ≠ W2.heap.size := fun a k ha hk => by
              obtain ⟨ys, hy⟩ := H4.out.tag ha hk
              have := (Array.getElem?_eq_some_iff.1 hy).1
              omega
            intro a b k ha hb e1 e2
            by_cases ea : a = j <;> by_cases eb : b = j
            · omega
            · simp [upd, ea, eb] at e1 e2
              exact absurd e1.symm (hlt b k hb e2)
            · simp [upd, ea, eb] at e1 e2
              exact absurd e2.symm (hlt a k ha e1)
            · simp [upd, ea, eb] at e1 e2
              exact H3.out a b k ha hb e1 e2
          obtain ⟨ms', hm3, hm4⟩ := hR3.msg
          obtain ⟨v0, e0, _, _⟩ := hm4 j hjn
          have c5 := (cell_at hR3.self 1).trans rfl
          have c6 := (cell_at hm3 j).trans e0
          have z6 := free_at hm3 j
          have K1 := hide hR4
          have K2 := hide (hB3.setCell (p := ⟨mB, j, none⟩) hb2 (.slice (some ⟨W2.heap.size, 0, none⟩) (lN lens i j) (lN lens i j)))
          have K3 := hide hin
          clear hR4 hin hB3 hR3 hnew hm3 hm4 hcs hcv hOnly hg0 H4 hB2
          go_wp2
          go_roundw
          case rel => exact ⟨j + 1, by omega, by simp, ⟨_, K1.out, K3.out⟩, K2.out⟩
          case measure => simp [intOf]; omega
      · have hws : wtF marks i (j + 1) = wtF marks i j := by simp [wtF, hmk]
        have H4 : Hid (RecAt W1 r0 r mB kB n (part (mkF marks i) (j + 1) false) (wtF marks i (j + 1) : Nat) (part (TF lens i) j []) B) := by
          rw [hws]
          exact H1
        have hB2 := H2
        clear H1 H2
        go_upto_if 121 with fail
        generalize W1 = W2 at H4 hB2 ⊢
        have hl : bits BinOp.and IntKind.u64 (lens / 2 ^ (2 * (i * 4 + j))) 3 = (lN lens i j : Int) := lN_eq lens i j
        have hl3 := lN_le lens i j
        rw [hl]
        have hl' : wrap64 (lN lens i j : Int) = (lN lens i j : Int) := by unfold wrap64; omega
        rw [hl']
        clear hl hl'
        by_cases hz : lN lens i j = 0
        · have hT : TF lens i j = [] := by simp [TF, hz]
          have hz0 : ¬ (0 : Int) < (lN lens i j : Int) := by omega
          go_wp2
          go_roundw
          case rel => exact ⟨j + 1, by omega, by simp, ⟨B, by rw [← part_skip _ _ _ hT]; exact H4.out, H3.out⟩, hB2.out⟩
          case measure => simp [intOf]; omega
        · have hlp : (0 : Int) < (lN lens i j : Int) := by omega
          have hmk46 := make46 W2 (lN lens i j) (by omega)
          go_upto_region 28 with fail
          have hg0 := heap_alloc_new W2 (.cells (madeCells #[Value.int .i64 0] (lN lens i j)) 3 (0, 0))
          have hO : (madeCells #[Value.int .i64 0] (lN lens i j)).size = lN lens i j := by simp [madeCells]
          generalize madeCells #[Value.int .i64 0] (lN lens i j) = O at hg0 hO ⊢
          clear hmk46
          go_upto_region 29 with fail
          refine loop4 (i := i) (j := j) (l := lN lens i j) (g := W2.heap.size) (by omega) (by omega) hl3 hg0 hO ?_
          rintro t27 t124 t125 t126 t127 t128 t129 t130 t131 t132 t133 t134 t135 wx ⟨cs, hcs, hcn, hcv⟩ hOnly
          have hsz : r0 ≤ W2.heap.size := Nat.le_trans hb4 hB2.out.size
          have hB3 : Below r0 w wx := hOnly.below (hB2.out.alloc hsz _) (fun k hk => by omega)
          have hR3 := H4.out.same (w' := wx) (fun k hk => (hOnly.block k (by omega)).trans (Below.heap_alloc _ _ _ hk))
          have hnew : wx.ownsRow r0 3 1 (.slice (some ⟨W2.heap.size, 0, none⟩) (lN lens i j) (lN lens i j)) (TF lens i j).length ((TF lens i j).map (Value.int .i64)) := by
            rw [TF_len]
            exact owns_new hsz hcs hcn hl3 hcv
          have hR4 := hR3.row hjn hnew
          rw [part_upd] at hR4
          have hin : ∀ a b k, a < n → b < n → upd B j (some W2.heap.size) a = some k → upd B j (some W2.heap.size) b = some k → a = b := by
            have hlt : ∀ a k, a < n → B a = some k → k ≠ W2.heap.size := fun a k ha hk => by
              obtain ⟨ys, hy⟩ := H4.out.tag ha hk
              have := (Array.getElem?_eq_some_iff.1 hy).1
              omega
            intro a b k ha hb e1 e2
            by_cases ea : a = j <;> by_cases eb : b = j
            · omega
            · simp [upd, ea, eb] at e1 e2
              exact absurd e1.symm (hlt b k hb e2)
            · simp [upd, ea, eb] at e1 e2
              exact absurd e2.symm (hlt a k ha e1)
            · simp [upd, ea, eb] at e1 e2
              exact H3.out a b k ha hb e1 e2
          obtain ⟨ms', hm3, hm4⟩ := hR3.msg
          obtain ⟨v0, e0, _, _⟩ := hm4 j hjn
          have c5 := (cell_at hR3.self 1).trans rfl
          have c6 := (cell_at hm3 j).trans e0
          have z6 := free_at hm3 j
          have K1 := hide hR4
          have K2 := hide (hB3.setCell (p := ⟨mB, j, none⟩) hb2 (.slice (some ⟨W2.heap.size, 0, none⟩) (lN lens i j) (lN lens i j)))
          have K3 := hide hin
          clear hR4 hin hB3 hR3 hnew hm3 hm4 hcs hcv hOnly hg0 H4 hB2
          go_wp2
          go_roundw
          case rel => exact ⟨j + 1, by omega, by simp, ⟨_, K1.out, K3.out⟩, K2.out⟩
          case measure => simp [intOf]; omega
    · have e : j = n := by omega
      subst e
      go_wp2
      exact HK.out _ _ _ _ _ _ _ _ _ _ _ _ _ _ _ _ _ _ _ _ _ _ _ _ _ _ _ _ _ _ _ _ _ _ _ _ _ _ _ _ _ _ _ _ _ _ _ _ _ _ _ _ _ _ _ _ _ _ _ _ _ _ _ _ _ _ _ ⟨B, h1, h2⟩ h3

end Go.Proofs.YbulkagfuFmt

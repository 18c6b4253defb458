import Derived.Test.YbulkaggiDe
namespace Go.Proofs.Ybulkaggi.BM
open Go.RowKit Go.Proofs.Ybulkaggi Go.Sort Go.Shelf Go.Lib
open Go.Proofs.Ybulkaggi.CE (hlt tag_ne own_tag own_keep size_set info_at rgOf)
set_option linter.unusedVariables false
set_option maxRecDepth 100000

set_option maxHeartbeats 8000000 in
theorem m_loop5 {QQ : Exit → Act → World → Prop} {g n c k a N F LA AB S BB AA : Nat} {v : Value} {M : Md} {done : List T3} {w : World} {y1 y2 y8 y9 y10 y11 y12 y20 y21 y22 y23 y24 y25 y26 y27 y28 y29 y30 y31 y32 y33 y34 y35 y36 y37 y38 y39 y40 y41 y42 y43 y44 y45 y46 y47 y48 y49 y50 y51 y52 y53 y54 y55 y56 y57 y58 y59 y60 y61 y62 y63 y64 y65 y66 y67 y68 y69 y70 y71 y72 y73 y74 y75 y76 y77 y78 y79 y80 y81 y82 y83 y84 y85 y86 y87 y88 y89 y90 y91 y92 y93 y94 y95 y96 y97 y98 y99 y100 y101 y102 y103 y104 y105 y106 y107 y108 y109 y110 y111 y112 y113 y114 y115 y116 y117 y118 y119 y120 y121 y122 y123 y124 y125 y126 y127 y128 y129 y130 y131 y132 y133 y134 y135 y136 y137 y138 y139 y140 y141 y142 y143 y144 y145 y146 y147 y148 y149 y150 y151 y152 y153 y154 y155 y156 y157 y158 y159 y160 y161 y162 y163 y164 y165 y166 y167 y168 y169 y170 y171 y172 y173 y174 y175 y176 y177 y178 y179 y180 y181 y182 y183 y184 y185 y186 y187 y188 y189 y190 y191 y192 y193 y194 y195 y196 y197 y198 y199 y200 y201 y202 y203 y204 y205 y206 y207 y208 y209 y210 y211 y212 y213 y214 y215 y216 y217 y218 y219 y220 y221 y222 y223 y224 y225 y226 y227 y228 y229 y230 y231 y232 y233 y234 y235 y236 y237 y238 y239 y240 y241 y242 y243 y244 y245 y246 y247 y248 y249 y250 y251 y252 y253 y254 y255 y256 y257 y258 y259 y260 y261 y262 y263 y264 y265 y266 y267 y268 y269 y270 y271 y272 y273 y274 y275 y276 y277 y278 y279 y280 y281 y282 y283 y284 y285 y286 y287 y288 y289 y290 y291 y292 y293 y294 y295 y296 y297 y298 y299 y300 y301 y302 y303 y304 y305 : Value}
    (hn : n ≤ 256) (hl : M.L.length = n) (h : RC w g F LA AB S M) (hg : g < N) (hk : k < 3) (ha1 : 1 ≤ a) (ha : a ≤ 4) (hbd : ∀ t, M.f t ≤ 256 ∧ M.l t ≤ 256 ∧ M.s t ≤ 256) (hd : done.length ≤ 100) (hS : MSt N w BB AA v M done)
    (hK : ∀ (t19 t20 t21 t22 t23 t24 t25 t26 t27 t28 t29 t30 t84 t85 t86 t87 t88 t89 t90 t91 t92 t93 t94 t95 t96 t97 t98 t99 t100 t101 t102 t103 t104 t105 t106 t107 t108 t109 t110 t111 t112 t113 t114 t115 t116 t117 t118 t119 t120 t121 t122 t123 t124 t125 t126 t127 t128 t129 t130 t131 t132 t133 t134 t135 t136 t137 t138 t139 t140 t141 t142 t143 t144 t145 t146 t147 t148 t149 t150 t151 t152 t153 t154 t155 t156 t157 t158 t159 t160 t161 t162 t163 t164 t165 t166 t167 t168 t169 t170 t171 t172 t173 t174 t175 t176 t177 t178 t179 t180 t181 t182 t183 t184 t185 t186 t187 t188 t189 t190 t191 t192 t193 t194 t195 t196 t197 t198 t199 t200 t201 t202 t203 t204 t205 t206 t207 t208 t209 t210 t211 t212 t213 t214 t215 t216 t217 t218 t219 t220 t221 t222 t223 t224 t225 t226 t227 t228 t229 t230 t231 t232 t233 t234 t235 t236 t237 t238 t239 t240 t241 t242 t243 t244 t245 t246 t247 t248 t249 t250 t251 t252 t253 t254 : Value) (v' : Value) (wx : World), MSt N wx BB AA v' M (done ++ (List.range 4).map (fun y => ((a, y + 1, k) : T3))) → FQ N w wx → QQ (.exit 8) { tmps := List.toArray ((.slice (some ⟨g, 0, none⟩) n c) :: y1 :: y2 :: (.int .i64 (n : Int)) :: (Pp F) :: (Pp LA) :: (Pp AB) :: (Pp S) :: y8 :: y9 :: y10 :: y11 :: y12 :: (v') :: (Pp BB) :: (Pp AA) :: (.int .i64 (k : Int)) :: (.string (itS k)) :: (.int .i64 (a : Int)) :: (t19) :: (t20) :: (t21) :: (t22) :: (t23) :: (t24) :: (t25) :: (t26) :: (t27) :: (t28) :: (t29) :: (t30) :: y31 :: y32 :: y33 :: y34 :: y35 :: y36 :: y37 :: y38 :: y39 :: y40 :: y41 :: y42 :: y43 :: y44 :: y45 :: y46 :: y47 :: y48 :: y49 :: y50 :: y51 :: y52 :: y53 :: y54 :: y55 :: y56 :: y57 :: y58 :: y59 :: y60 :: y61 :: y62 :: y63 :: y64 :: y65 :: y66 :: y67 :: y68 :: y69 :: y70 :: y71 :: y72 :: y73 :: y74 :: y75 :: y76 :: y77 :: y78 :: y79 :: y80 :: y81 :: y82 :: y83 :: (t84) :: (t85) :: (t86) :: (t87) :: (t88) :: (t89) :: (t90) :: (t91) :: (t92) :: (t93) :: (t94) :: (t95) :: (t96) :: (t97) :: (t98) :: (t99) :: (t100) :: (t101) :: (t102) :: (t103) :: (t104) :: (t105) :: (t106) :: (t107) :: (t108) :: (t109) :: (t110) :: (t111) :: (t112) :: (t113) :: (t114) :: (t115) :: (t116) :: (t117) :: (t118) :: (t119) :: (t120) :: (t121) :: (t122) :: (t123) :: (t124) :: (t125) :: (t126) :: (t127) :: (t128) :: (t129) :: (t130) :: (t131) :: (t132) :: (t133) :: (t134) :: (t135) :: (t136) :: (t137) :: (t138) :: (t139) :: (t140) :: (t141) :: (t142) :: (t143) :: (t144) :: (t145) :: (t146) :: (t147) :: (t148) :: (t149) :: (t150) :: (t151) :: (t152) :: (t153) :: (t154) :: (t155) :: (t156) :: (t157) :: (t158) :: (t159) :: (t160) :: (t161) :: (t162) :: (t163) :: (t164) :: (t165) :: (t166) :: (t167) :: (t168) :: (t169) :: (t170) :: (t171) :: (t172) :: (t173) :: (t174) :: (t175) :: (t176) :: (t177) :: (t178) :: (t179) :: (t180) :: (t181) :: (t182) :: (t183) :: (t184) :: (t185) :: (t186) :: (t187) :: (t188) :: (t189) :: (t190) :: (t191) :: (t192) :: (t193) :: (t194) :: (t195) :: (t196) :: (t197) :: (t198) :: (t199) :: (t200) :: (t201) :: (t202) :: (t203) :: (t204) :: (t205) :: (t206) :: (t207) :: (t208) :: (t209) :: (t210) :: (t211) :: (t212) :: (t213) :: (t214) :: (t215) :: (t216) :: (t217) :: (t218) :: (t219) :: (t220) :: (t221) :: (t222) :: (t223) :: (t224) :: (t225) :: (t226) :: (t227) :: (t228) :: (t229) :: (t230) :: (t231) :: (t232) :: (t233) :: (t234) :: (t235) :: (t236) :: (t237) :: (t238) :: (t239) :: (t240) :: (t241) :: (t242) :: (t243) :: (t244) :: (t245) :: (t246) :: (t247) :: (t248) :: (t249) :: (t250) :: (t251) :: (t252) :: (t253) :: (t254) :: y255 :: y256 :: y257 :: y258 :: y259 :: y260 :: y261 :: y262 :: y263 :: y264 :: y265 :: y266 :: y267 :: y268 :: y269 :: y270 :: y271 :: y272 :: y273 :: y274 :: y275 :: y276 :: y277 :: y278 :: y279 :: y280 :: y281 :: y282 :: y283 :: y284 :: y285 :: y286 :: y287 :: y288 :: y289 :: y290 :: y291 :: y292 :: y293 :: y294 :: y295 :: y296 :: y297 :: y298 :: y299 :: y300 :: y301 :: y302 :: y303 :: y304 :: y305 :: []), defers := [] } wx) :
    Code.wp Yba.prog (lpOf Yba.f16.body 4) QQ { tmps := List.toArray ((.slice (some ⟨g, 0, none⟩) n c) :: y1 :: y2 :: (.int .i64 (n : Int)) :: (Pp F) :: (Pp LA) :: (Pp AB) :: (Pp S) :: y8 :: y9 :: y10 :: y11 :: y12 :: (v) :: (Pp BB) :: (Pp AA) :: (.int .i64 (k : Int)) :: (.string (itS k)) :: (.int .i64 (a : Int)) :: (.int .i64 1) :: y20 :: y21 :: y22 :: y23 :: y24 :: y25 :: y26 :: y27 :: y28 :: y29 :: y30 :: y31 :: y32 :: y33 :: y34 :: y35 :: y36 :: y37 :: y38 :: y39 :: y40 :: y41 :: y42 :: y43 :: y44 :: y45 :: y46 :: y47 :: y48 :: y49 :: y50 :: y51 :: y52 :: y53 :: y54 :: y55 :: y56 :: y57 :: y58 :: y59 :: y60 :: y61 :: y62 :: y63 :: y64 :: y65 :: y66 :: y67 :: y68 :: y69 :: y70 :: y71 :: y72 :: y73 :: y74 :: y75 :: y76 :: y77 :: y78 :: y79 :: y80 :: y81 :: y82 :: y83 :: y84 :: y85 :: y86 :: y87 :: y88 :: y89 :: y90 :: y91 :: y92 :: y93 :: y94 :: y95 :: y96 :: y97 :: y98 :: y99 :: y100 :: y101 :: y102 :: y103 :: y104 :: y105 :: y106 :: y107 :: y108 :: y109 :: y110 :: y111 :: y112 :: y113 :: y114 :: y115 :: y116 :: y117 :: y118 :: y119 :: y120 :: y121 :: y122 :: y123 :: y124 :: y125 :: y126 :: y127 :: y128 :: y129 :: y130 :: y131 :: y132 :: y133 :: y134 :: y135 :: y136 :: y137 :: y138 :: y139 :: y140 :: y141 :: y142 :: y143 :: y144 :: y145 :: y146 :: y147 :: y148 :: y149 :: y150 :: y151 :: y152 :: y153 :: y154 :: y155 :: y156 :: y157 :: y158 :: y159 :: y160 :: y161 :: y162 :: y163 :: y164 :: y165 :: y166 :: y167 :: y168 :: y169 :: y170 :: y171 :: y172 :: y173 :: y174 :: y175 :: y176 :: y177 :: y178 :: y179 :: y180 :: y181 :: y182 :: y183 :: y184 :: y185 :: y186 :: y187 :: y188 :: y189 :: y190 :: y191 :: y192 :: y193 :: y194 :: y195 :: y196 :: y197 :: y198 :: y199 :: y200 :: y201 :: y202 :: y203 :: y204 :: y205 :: y206 :: y207 :: y208 :: y209 :: y210 :: y211 :: y212 :: y213 :: y214 :: y215 :: y216 :: y217 :: y218 :: y219 :: y220 :: y221 :: y222 :: y223 :: y224 :: y225 :: y226 :: y227 :: y228 :: y229 :: y230 :: y231 :: y232 :: y233 :: y234 :: y235 :: y236 :: y237 :: y238 :: y239 :: y240 :: y241 :: y242 :: y243 :: y244 :: y245 :: y246 :: y247 :: y248 :: y249 :: y250 :: y251 :: y252 :: y253 :: y254 :: y255 :: y256 :: y257 :: y258 :: y259 :: y260 :: y261 :: y262 :: y263 :: y264 :: y265 :: y266 :: y267 :: y268 :: y269 :: y270 :: y271 :: y272 :: y273 :: y274 :: y275 :: y276 :: y277 :: y278 :: y279 :: y280 :: y281 :: y282 :: y283 :: y284 :: y285 :: y286 :: y287 :: y288 :: y289 :: y290 :: y291 :: y292 :: y293 :: y294 :: y295 :: y296 :: y297 :: y298 :: y299 :: y300 :: y301 :: y302 :: y303 :: y304 :: y305 :: []), defers := [] } w := by
  have HK := hide hK
  clear hK
  have H := hide h
  have HL := hide hl
  have HD := hide hbd
  have HS0 := hide hS
  have HHN := hide hn
  have HG := hide hg
  clear h hl hbd hS hn hg
  conv => arg 2; whnf
  go_loopw [13, 19] (fun u q wx => ∃ (b : Nat), 1 ≤ b ∧ b ≤ 5 ∧ q = .int .i64 (b : Int) ∧ MSt N wx BB AA u M (done ++ (List.range (b - 1)).map (fun y => ((a, y + 1, k) : T3))) ∧ FQ N w wx) (fun u q _ => 5 - (intOf q).toNat)
  case atStart => exact ⟨1, by omega, by omega, rfl, by simpa using HS0.out, FQ.refl _ _⟩
  case round =>
    clear HS0
    obtain ⟨b, hb1, hb5, rfl, hst, hfq⟩ := hrel
    by_cases hb4 : b ≤ 4
    · have hb4' : (b : Int) ≤ 4 := by omega
      obtain ⟨dn, hdn⟩ : ∃ d, d = done ++ (List.range (b - 1)).map (fun y => ((a, y + 1, k) : T3)) := ⟨_, rfl⟩
      rw [← hdn] at hst
      have hdl : dn.length ≤ 104 := by rw [hdn]; simp; omega
      have HN := hide (show done ++ (List.range (b + 1 - 1)).map (fun y => ((a, y + 1, k) : T3)) = dn ++ [(a, b, k)] by
        obtain ⟨b', rfl⟩ : ∃ b', b = b' + 1 := ⟨b - 1, by omega⟩
        show done ++ (List.range (b' + 1)).map _ = _
        rw [range_snoc, hdn, List.append_assoc]
        rfl)
      have HRC := hide (H.out.keep hfq HG.out)
      have HST := hide hst
      obtain ⟨fl, hmd, hkey⟩ := hst
      have hfl : fl.length ≤ 208 := by
        have := congrArg List.length hkey
        have := done_len M dn
        simp at *
        omega
      have HFL := hide hfl
      obtain ⟨va, vc, hv⟩ := own_shape hmd.row
      have SK := hide (show M.vis (a, b, k) = false → ∀ m, MSt N (wr.drewN m) BB AA (.slice va fl.length vc) M (done ++ (List.range (b + 1 - 1)).map (fun y => ((a, y + 1, k) : T3))) ∧ FQ N w (wr.drewN m) from fun hvs m => by
        rw [HN.out, ← hv]
        exact ⟨(HST.out.skip hvs).dN m, hfq.trans (FQ.dN _ _ _)⟩)
      have SK0 := hide (show M.vis (a, b, k) = false → MSt N wr BB AA (.slice va fl.length vc) M (done ++ (List.range (b + 1 - 1)).map (fun y => ((a, y + 1, k) : T3))) ∧ FQ N w wr from fun hvs => by
        rw [HN.out, ← hv]
        exact ⟨HST.out.skip hvs, hfq⟩)
      subst hv
      have HFQ := hide hfq
      have HMD := hide hmd
      have HKEY := hide hkey
      have V := hide (show M.vis (a, b, k) = (!(decide (a = b) || !M.sn a || !M.sn b) && !(decide (M.l b < M.f a) || decide (M.l a < M.f b)) && !(!touch M.L a k || !touch M.L b k)) from rfl)
      have HB := hide (And.intro hb4 (And.intro hb1 hb5))
      clear hfq hmd hkey hdn HST hfl hdl
      generalize hm : fl.length = m at *
      have HLM := hide hm
      clear hm
      go_upto_region 32 with fail
      refine m_r32 (a := a) (b := b) (S := S) ha hb4 (HRC.out.n.at_ ha) (HRC.out.n.at_ hb4) ?_
      intro t88 t89 t90 t91 t92 t93 t94 t95 t96 t97 t98 t99 t100 t101
      generalize (decide (a = b) || !M.sn a || !M.sn b) = x1 at *
      cases x1 with
      | true =>
        have SX := hide (SK0.out (by rw [V.out]; rfl))
        clear SK SK0 V
        go_wp2
        go_roundw
        case rel => exact ⟨b + 1, by omega, by omega, by go_num, SX.out⟩
        case measure => simp [intOf]; omega
      | false =>
        clear SK0
        go_upto_region 33 with fail
        refine m_r33 (a := a) (b := b) (F := F) (LA := LA) (fa := M.f a) (fb := M.f b) (la := M.l a) (lb := M.l b) ha hb4 (HD.out a).1 (HD.out b).1 (HD.out a).2.1 (HD.out b).2.1 (HRC.out.f.at_ ha) (HRC.out.f.at_ hb4) (HRC.out.l.at_ ha) (HRC.out.l.at_ hb4) ?_
        intro t103 t104 t105 t106 t107 t108 t109 t110 t111 t112 t113 t114 t115 t116 t117 nq
        generalize (decide (M.l b < M.f a) || decide (M.l a < M.f b)) = x2 at *
        have hFW : FQ N wr (wr.drewN nq) := FQ.dN _ _ _
        have SX := hide (fun e => SK.out e nq)
        have HW := hide (HFQ.out.trans hFW)
        have MW := hide (HMD.out.dN nq)
        have RW := hide (HRC.out.keep hFW HG.out)
        clear SK HFQ HMD HRC hFW
        generalize wr.drewN nq = W at *
        cases x2 with
        | true =>
          have SY := hide (SX.out (by rw [V.out]; rfl))
          clear SX V
          go_wp2
          go_roundw
          case rel => exact ⟨b + 1, by omega, by omega, by go_num, SY.out⟩
          case measure => simp [intOf]; omega
        | false =>
          go_upto_region 34 with fail
          refine m_r34 (a := a) (b := b) (g := g) (n := n) (c := c) (k := k) (L := M.L) HHN.out HL.out RW.out.ops hk ?_
          intro t119 t120 t121 t122 t123 t124 t125 t126 t127 t128 t129
          generalize (!touch M.L a k || !touch M.L b k) = x3 at *
          cases x3 with
          | true =>
            have SY := hide (SX.out (by rw [V.out]; rfl))
            clear SX V
            go_wp2
            go_roundw
            case rel => exact ⟨b + 1, by omega, by omega, by go_num, SY.out⟩
            case measure => simp [intOf]; omega
          | false =>
            have HV := hide (show M.vis (a, b, k) = true by rw [V.out]; rfl)
            clear SX V
            go_upto_region 37 with fail
            refine m_loop6 (g := g) (n := n) (c := c) (k := k) (a := a) (b := b) (L := M.L) (AB := AB) (sb := M.s b) HHN.out HL.out RW.out.ops hk hb4 (RW.out.s.at_ hb4) (HD.out b).2.2 ?_
            intro t24 t25 t26 t27 t28 t29 t30 t131 t132 t133 t134 t135 t136 t137 t138 t139 t140 t141 t142 t143 t144 t145 t146 t147 t148 t149 t150 t151 t152 t153 t154 t155 t156 t157 t158 t159 t160 t161 t162 t163 t164 t165 t166 t167 t168 t169 t170 t171 t172 t173 t174 t175 t176 t177 t178 t179 t180 t181 t182 t183 t184 t185 t186 t187 t188 t189 t190 t191 t192 t193 t194 t195 t196 t197 t198 t199 t200 t201 t202 t203 t204 t205 t206 t207 t208 v0 v1 v2 v3 hv0 hv1 hv2 hv3
            have E1 := hide (show v1 = M.nr (a, b, k) by rw [Bool.eq_iff_iff, hv1, Md.nr_iff, HL.out]; rfl)
            have E2 := hide (show v2 = M.rb (a, b, k) by rw [Bool.eq_iff_iff, hv2, Md.rb_iff, HL.out]; rfl)
            have E3 := hide (show v3 = M.ra (a, b, k) by rw [Bool.eq_iff_iff, hv3, Md.ra_iff, HL.out]; rfl)
            have E0 := hide (show (v0 && decide (M.s a = n) && decide (M.s b = n)) = M.ls (a, b, k) by rw [Bool.eq_iff_iff, Md.ls_iff, HL.out]; simp only [Bool.and_eq_true, decide_eq_true_eq, hv0, and_assoc]; rfl)
            clear hv0 hv1 hv2 hv3
            go_upto_region 69 with fail
            refine m_r69 (a := a) (b := b) (n := n) (AB := AB) (sa := M.s a) (sb := M.s b) (v0 := v0) ha hb4 (RW.out.s.at_ ha) (RW.out.s.at_ hb4) ?_
            intro t209 t210 t211 t212 t213 t214 t215 t216 t217 t218 t219 t220 t221 t222
            generalize (v0 && decide (M.s a = n) && decide (M.s b = n)) = x0 at *
            go_upto_if 223 with fail
            go_cut [13] from 84 to 254 (fun u wx => ∃ ex : List An2, MD N wx BB AA (fl ++ ex) u (M.bf dn) (M.af dn) ∧ ex.map An2.key = ad x0 (key1 0 (a, b, k)) ∧ ex.length ≤ 1 ∧ FQ N W wx)
            case first =>
              cases x0 with
              | false =>
                have FF : Hid (∃ ex : List An2, MD N W BB AA (fl ++ ex) (.slice va m vc) (M.bf dn) (M.af dn) ∧ ex.map An2.key = ad false (key1 0 (a, b, k)) ∧ ex.length ≤ 1 ∧ FQ N W W) := ⟨[], by simpa using MW.out, rfl, by simp, FQ.refl _ _⟩
                go_wp2
                go_meet
                exact FF.out
              | true =>
                go_upto_region 70 with fail
                refine m_r70 (a := a) (b := b) (k := k) MW.out (by have := HFL.out; have := HLM.out; omega) ?_
                intro t224 t225 t226 t227 t228 t229 t230 t231 v' w3 q1 q2
                have FF : Hid (∃ ex : List An2, MD N w3 BB AA (fl ++ ex) v' (M.bf dn) (M.af dn) ∧ ex.map An2.key = ad true (key1 0 (a, b, k)) ∧ ex.length ≤ 1 ∧ FQ N W w3) := ⟨_, q1, rfl, by simp, q2⟩
                clear q1 q2
                go_wp2
                go_meet
                exact FF.out
            case rest =>
              obtain ⟨ex, p1, p2, p3, p4⟩ := hcut
              have P1 := hide p1
              have P2 := hide p2
              have P4 := hide (HW.out.trans p4)
              have PL : (fl ++ ex).length ≤ 300 := by have := HFL.out; have := HLM.out; rw [List.length_append]; omega
              have HPL := hide PL
              clear p1 p2 p4 HW MW PL
              go_upto_if 232 with fail
              go_cut [13] from 84 to 254 (fun u wx => ∃ ey : List An2, MD N wx BB AA (fl ++ ex ++ ey) u (M.bf dn) (M.af dn) ∧ ey.map An2.key = ad v1 (key1 1 (a, b, k)) ∧ FQ N wc wx)
              case first =>
                cases v1 with
                | false =>
                  have FF := hide (show ∀ u, MD N wc BB AA (fl ++ ex) u (M.bf dn) (M.af dn) → ∃ ey : List An2, MD N wc BB AA (fl ++ ex ++ ey) u (M.bf dn) (M.af dn) ∧ ey.map An2.key = ad false (key1 1 (a, b, k)) ∧ FQ N wc wc from fun u hu => ⟨[], by rw [List.append_nil]; exact hu, rfl, FQ.refl _ _⟩)
                  go_wp2
                  go_meet
                  exact FF.out _ P1.out
                | true =>
                  go_upto_region 72 with fail
                  refine m_r72 (a := a) (b := b) (k := k) P1.out (by have := HPL.out; omega) ?_
                  intro t233 t234 t235 t236 t237 t238 t239 t240 v' w3 q1 q2
                  have FF : Hid (∃ ey : List An2, MD N w3 BB AA (fl ++ ex ++ ey) v' (M.bf dn) (M.af dn) ∧ ey.map An2.key = ad true (key1 1 (a, b, k)) ∧ FQ N wc w3) := ⟨_, q1, rfl, q2⟩
                  clear q1 q2
                  go_wp2
                  go_meet
                  exact FF.out
              case rest =>
                obtain ⟨ey, p5, p6, p7⟩ := hcut
                have c1 := p5.hb.at_ ha hb4 hk
                have c2 := p5.ha.at_ ha hb4 hk
                have f1 := p5.hb.free (a * 15 + b * 3 + k)
                have f2 := p5.ha.free (a * 15 + b * 3 + k)
                have hnb : ¬ AA = BB := fun e => p5.nba e.symm
                have FIN := hide (MSt.step (ex := ex ++ ey) ha hb4 hk (by rw [← List.append_assoc]; exact p5) HKEY.out HV.out (by rw [List.map_append, P2.out, p6, E0.out, E1.out]; rfl))
                rw [← E2.out, ← E3.out, ← HN.out] at FIN
                have P7 := hide (P4.out.trans p7)
                clear p5 p6 p7
                go_wp2
                go_roundw
                case rel => exact ⟨b + 1, by omega, by omega, by go_num, FIN.out.1, P7.out.trans FIN.out.2⟩
                case measure => simp [intOf]; omega
    · obtain rfl : b = 5 := by omega
      have G1 := hide hst
      have G2 := hide hfq
      clear hst hfq
      go_wp2
      exact HK.out _ _ _ _ _ _ _ _ _ _ _ _ _ _ _ _ _ _ _ _ _ _ _ _ _ _ _ _ _ _ _ _ _ _ _ _ _ _ _ _ _ _ _ _ _ _ _ _ _ _ _ _ _ _ _ _ _ _ _ _ _ _ _ _ _ _ _ _ _ _ _ _ _ _ _ _ _ _ _ _ _ _ _ _ _ _ _ _ _ _ _ _ _ _ _ _ _ _ _ _ _ _ _ _ _ _ _ _ _ _ _ _ _ _ _ _ _ _ _ _ _ _ _ _ _ _ _ _ _ _ _ _ _ _ _ _ _ _ _ _ _ _ _ _ _ _ _ _ _ _ _ _ _ _ _ _ _ _ _ _ _ _ _ _ _ _ _ _ _ _ _ _ _ _ _ _ _ _ _ _ _ _ _ _ _ G1.out G2.out

end Go.Proofs.Ybulkaggi.BM

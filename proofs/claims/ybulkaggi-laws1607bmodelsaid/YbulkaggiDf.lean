import Derived.Test.YbulkaggiDd
namespace Go.Proofs.Ybulkaggi.BM
open Go.RowKit Go.Proofs.Ybulkaggi Go.Sort Go.Shelf Go.Lib
open Go.Proofs.Ybulkaggi.CE (hlt tag_ne own_tag own_keep size_set info_at rgOf)
set_option linter.unusedVariables false
set_option maxRecDepth 100000

def rowA (a k : Nat) : List T3 := (List.range 4).map (fun y => ((a, y + 1, k) : T3))
def rowK (k : Nat) : List T3 := (List.range 4).flatMap (fun x => rowA (x + 1) k)
def allT : List T3 := (List.range 3).flatMap rowK
theorem flat_succ {α : Type} (f : Nat → List α) (n : Nat) : (List.range (n + 1)).flatMap f = (List.range n).flatMap f ++ f n := by
  rw [List.range_succ, List.flatMap_append]
  simp
theorem len1' {α β : Type} (f : α → List β) (m : Nat) (h : ∀ x, (f x).length ≤ m) (D : List α) : (D.flatMap f).length ≤ m * D.length := by
  induction D with
  | nil => simp
  | cons x D ih =>
    have := h x
    rw [List.flatMap_cons, List.length_append, List.length_cons, Nat.mul_add]
    omega
theorem flat_le {α : Type} (f : Nat → List α) (m : Nat) (h : ∀ x, (f x).length ≤ m) (n : Nat) : ((List.range n).flatMap f).length ≤ m * n := by
  have := len1' f m h (List.range n)
  simpa using this

set_option maxHeartbeats 4000000 in
theorem m_loop4 {QQ : Exit → Act → World → Prop} {g n c k N F LA AB S BB AA : Nat} {v : Value} {M : Md} {done : List T3} {w : World} {y1 y2 y8 y9 y10 y11 y12 y19 y20 y21 y22 y23 y24 y25 y26 y27 y28 y29 y30 y31 y32 y33 y34 y35 y36 y37 y38 y39 y40 y41 y42 y43 y44 y45 y46 y47 y48 y49 y50 y51 y52 y53 y54 y55 y56 y57 y58 y59 y60 y61 y62 y63 y64 y65 y66 y67 y68 y69 y70 y71 y72 y73 y74 y75 y76 y77 y78 y79 y80 y81 y82 y83 y84 y85 y86 y87 y88 y89 y90 y91 y92 y93 y94 y95 y96 y97 y98 y99 y100 y101 y102 y103 y104 y105 y106 y107 y108 y109 y110 y111 y112 y113 y114 y115 y116 y117 y118 y119 y120 y121 y122 y123 y124 y125 y126 y127 y128 y129 y130 y131 y132 y133 y134 y135 y136 y137 y138 y139 y140 y141 y142 y143 y144 y145 y146 y147 y148 y149 y150 y151 y152 y153 y154 y155 y156 y157 y158 y159 y160 y161 y162 y163 y164 y165 y166 y167 y168 y169 y170 y171 y172 y173 y174 y175 y176 y177 y178 y179 y180 y181 y182 y183 y184 y185 y186 y187 y188 y189 y190 y191 y192 y193 y194 y195 y196 y197 y198 y199 y200 y201 y202 y203 y204 y205 y206 y207 y208 y209 y210 y211 y212 y213 y214 y215 y216 y217 y218 y219 y220 y221 y222 y223 y224 y225 y226 y227 y228 y229 y230 y231 y232 y233 y234 y235 y236 y237 y238 y239 y240 y241 y242 y243 y244 y245 y246 y247 y248 y249 y250 y251 y252 y253 y254 y255 y256 y257 y258 y259 y260 y261 y262 y263 y264 y265 y266 y267 y268 y269 y270 y271 y272 y273 y274 y275 y276 y277 y278 y279 y280 y281 y282 y283 y284 y285 y286 y287 y288 y289 y290 y291 y292 y293 y294 y295 y296 y297 y298 y299 y300 y301 y302 y303 y304 y305 : Value}
    (hn : n ≤ 256) (hl : M.L.length = n) (h : RC w g F LA AB S M) (hg : g < N) (hbd : ∀ t, M.f t ≤ 256 ∧ M.l t ≤ 256 ∧ M.s t ≤ 256) (hk : k < 3) (hd : done.length ≤ 80) (hS : MSt N w BB AA v M done)
    (hK : ∀ (t18 t19 t20 t21 t22 t23 t24 t25 t26 t27 t28 t29 t30 t80 t81 t82 t83 t84 t85 t86 t87 t88 t89 t90 t91 t92 t93 t94 t95 t96 t97 t98 t99 t100 t101 t102 t103 t104 t105 t106 t107 t108 t109 t110 t111 t112 t113 t114 t115 t116 t117 t118 t119 t120 t121 t122 t123 t124 t125 t126 t127 t128 t129 t130 t131 t132 t133 t134 t135 t136 t137 t138 t139 t140 t141 t142 t143 t144 t145 t146 t147 t148 t149 t150 t151 t152 t153 t154 t155 t156 t157 t158 t159 t160 t161 t162 t163 t164 t165 t166 t167 t168 t169 t170 t171 t172 t173 t174 t175 t176 t177 t178 t179 t180 t181 t182 t183 t184 t185 t186 t187 t188 t189 t190 t191 t192 t193 t194 t195 t196 t197 t198 t199 t200 t201 t202 t203 t204 t205 t206 t207 t208 t209 t210 t211 t212 t213 t214 t215 t216 t217 t218 t219 t220 t221 t222 t223 t224 t225 t226 t227 t228 t229 t230 t231 t232 t233 t234 t235 t236 t237 t238 t239 t240 t241 t242 t243 t244 t245 t246 t247 t248 t249 t250 t251 t252 t253 t254 : Value) (v' : Value) (wx : World), MSt N wx BB AA v' M (done ++ rowK k) → FQ N w wx → QQ (.exit 6) { tmps := List.toArray ((.slice (some ⟨g, 0, none⟩) n c) :: y1 :: y2 :: (.int .i64 (n : Int)) :: (Pp F) :: (Pp LA) :: (Pp AB) :: (Pp S) :: y8 :: y9 :: y10 :: y11 :: y12 :: (v') :: (Pp BB) :: (Pp AA) :: (.int .i64 (k : Int)) :: (.string (itS k)) :: (t18) :: (t19) :: (t20) :: (t21) :: (t22) :: (t23) :: (t24) :: (t25) :: (t26) :: (t27) :: (t28) :: (t29) :: (t30) :: y31 :: y32 :: y33 :: y34 :: y35 :: y36 :: y37 :: y38 :: y39 :: y40 :: y41 :: y42 :: y43 :: y44 :: y45 :: y46 :: y47 :: y48 :: y49 :: y50 :: y51 :: y52 :: y53 :: y54 :: y55 :: y56 :: y57 :: y58 :: y59 :: y60 :: y61 :: y62 :: y63 :: y64 :: y65 :: y66 :: y67 :: y68 :: y69 :: y70 :: y71 :: y72 :: y73 :: y74 :: y75 :: y76 :: y77 :: y78 :: y79 :: (t80) :: (t81) :: (t82) :: (t83) :: (t84) :: (t85) :: (t86) :: (t87) :: (t88) :: (t89) :: (t90) :: (t91) :: (t92) :: (t93) :: (t94) :: (t95) :: (t96) :: (t97) :: (t98) :: (t99) :: (t100) :: (t101) :: (t102) :: (t103) :: (t104) :: (t105) :: (t106) :: (t107) :: (t108) :: (t109) :: (t110) :: (t111) :: (t112) :: (t113) :: (t114) :: (t115) :: (t116) :: (t117) :: (t118) :: (t119) :: (t120) :: (t121) :: (t122) :: (t123) :: (t124) :: (t125) :: (t126) :: (t127) :: (t128) :: (t129) :: (t130) :: (t131) :: (t132) :: (t133) :: (t134) :: (t135) :: (t136) :: (t137) :: (t138) :: (t139) :: (t140) :: (t141) :: (t142) :: (t143) :: (t144) :: (t145) :: (t146) :: (t147) :: (t148) :: (t149) :: (t150) :: (t151) :: (t152) :: (t153) :: (t154) :: (t155) :: (t156) :: (t157) :: (t158) :: (t159) :: (t160) :: (t161) :: (t162) :: (t163) :: (t164) :: (t165) :: (t166) :: (t167) :: (t168) :: (t169) :: (t170) :: (t171) :: (t172) :: (t173) :: (t174) :: (t175) :: (t176) :: (t177) :: (t178) :: (t179) :: (t180) :: (t181) :: (t182) :: (t183) :: (t184) :: (t185) :: (t186) :: (t187) :: (t188) :: (t189) :: (t190) :: (t191) :: (t192) :: (t193) :: (t194) :: (t195) :: (t196) :: (t197) :: (t198) :: (t199) :: (t200) :: (t201) :: (t202) :: (t203) :: (t204) :: (t205) :: (t206) :: (t207) :: (t208) :: (t209) :: (t210) :: (t211) :: (t212) :: (t213) :: (t214) :: (t215) :: (t216) :: (t217) :: (t218) :: (t219) :: (t220) :: (t221) :: (t222) :: (t223) :: (t224) :: (t225) :: (t226) :: (t227) :: (t228) :: (t229) :: (t230) :: (t231) :: (t232) :: (t233) :: (t234) :: (t235) :: (t236) :: (t237) :: (t238) :: (t239) :: (t240) :: (t241) :: (t242) :: (t243) :: (t244) :: (t245) :: (t246) :: (t247) :: (t248) :: (t249) :: (t250) :: (t251) :: (t252) :: (t253) :: (t254) :: y255 :: y256 :: y257 :: y258 :: y259 :: y260 :: y261 :: y262 :: y263 :: y264 :: y265 :: y266 :: y267 :: y268 :: y269 :: y270 :: y271 :: y272 :: y273 :: y274 :: y275 :: y276 :: y277 :: y278 :: y279 :: y280 :: y281 :: y282 :: y283 :: y284 :: y285 :: y286 :: y287 :: y288 :: y289 :: y290 :: y291 :: y292 :: y293 :: y294 :: y295 :: y296 :: y297 :: y298 :: y299 :: y300 :: y301 :: y302 :: y303 :: y304 :: y305 :: []), defers := [] } wx) :
    Code.wp Yba.prog (lpOf Yba.f16.body 3) QQ { tmps := List.toArray ((.slice (some ⟨g, 0, none⟩) n c) :: y1 :: y2 :: (.int .i64 (n : Int)) :: (Pp F) :: (Pp LA) :: (Pp AB) :: (Pp S) :: y8 :: y9 :: y10 :: y11 :: y12 :: (v) :: (Pp BB) :: (Pp AA) :: (.int .i64 (k : Int)) :: (.string (itS k)) :: (.int .i64 1) :: y19 :: y20 :: y21 :: y22 :: y23 :: y24 :: y25 :: y26 :: y27 :: y28 :: y29 :: y30 :: y31 :: y32 :: y33 :: y34 :: y35 :: y36 :: y37 :: y38 :: y39 :: y40 :: y41 :: y42 :: y43 :: y44 :: y45 :: y46 :: y47 :: y48 :: y49 :: y50 :: y51 :: y52 :: y53 :: y54 :: y55 :: y56 :: y57 :: y58 :: y59 :: y60 :: y61 :: y62 :: y63 :: y64 :: y65 :: y66 :: y67 :: y68 :: y69 :: y70 :: y71 :: y72 :: y73 :: y74 :: y75 :: y76 :: y77 :: y78 :: y79 :: y80 :: y81 :: y82 :: y83 :: y84 :: y85 :: y86 :: y87 :: y88 :: y89 :: y90 :: y91 :: y92 :: y93 :: y94 :: y95 :: y96 :: y97 :: y98 :: y99 :: y100 :: y101 :: y102 :: y103 :: y104 :: y105 :: y106 :: y107 :: y108 :: y109 :: y110 :: y111 :: y112 :: y113 :: y114 :: y115 :: y116 :: y117 :: y118 :: y119 :: y120 :: y121 :: y122 :: y123 :: y124 :: y125 :: y126 :: y127 :: y128 :: y129 :: y130 :: y131 :: y132 :: y133 :: y134 :: y135 :: y136 :: y137 :: y138 :: y139 :: y140 :: y141 :: y142 :: y143 :: y144 :: y145 :: y146 :: y147 :: y148 :: y149 :: y150 :: y151 :: y152 :: y153 :: y154 :: y155 :: y156 :: y157 :: y158 :: y159 :: y160 :: y161 :: y162 :: y163 :: y164 :: y165 :: y166 :: y167 :: y168 :: y169 :: y170 :: y171 :: y172 :: y173 :: y174 :: y175 :: y176 :: y177 :: y178 :: y179 :: y180 :: y181 :: y182 :: y183 :: y184 :: y185 :: y186 :: y187 :: y188 :: y189 :: y190 :: y191 :: y192 :: y193 :: y194 :: y195 :: y196 :: y197 :: y198 :: y199 :: y200 :: y201 :: y202 :: y203 :: y204 :: y205 :: y206 :: y207 :: y208 :: y209 :: y210 :: y211 :: y212 :: y213 :: y214 :: y215 :: y216 :: y217 :: y218 :: y219 :: y220 :: y221 :: y222 :: y223 :: y224 :: y225 :: y226 :: y227 :: y228 :: y229 :: y230 :: y231 :: y232 :: y233 :: y234 :: y235 :: y236 :: y237 :: y238 :: y239 :: y240 :: y241 :: y242 :: y243 :: y244 :: y245 :: y246 :: y247 :: y248 :: y249 :: y250 :: y251 :: y252 :: y253 :: y254 :: y255 :: y256 :: y257 :: y258 :: y259 :: y260 :: y261 :: y262 :: y263 :: y264 :: y265 :: y266 :: y267 :: y268 :: y269 :: y270 :: y271 :: y272 :: y273 :: y274 :: y275 :: y276 :: y277 :: y278 :: y279 :: y280 :: y281 :: y282 :: y283 :: y284 :: y285 :: y286 :: y287 :: y288 :: y289 :: y290 :: y291 :: y292 :: y293 :: y294 :: y295 :: y296 :: y297 :: y298 :: y299 :: y300 :: y301 :: y302 :: y303 :: y304 :: y305 :: []), defers := [] } w := by
  have HK := hide hK
  clear hK
  have H := hide h
  have HL := hide hl
  have HD := hide hbd
  have HS0 := hide hS
  have HHN := hide hn
  have HG := hide hg
  clear h hl hbd hS hn hg
  conv => arg 2; whnf
  go_loopw [13, 18] (fun u q wx => ∃ (a : Nat), 1 ≤ a ∧ a ≤ 5 ∧ q = .int .i64 (a : Int) ∧ MSt N wx BB AA u M (done ++ (List.range (a - 1)).flatMap (fun x => rowA (x + 1) k)) ∧ FQ N w wx) (fun u q _ => 5 - (intOf q).toNat)
  case atStart => exact ⟨1, by omega, by omega, rfl, by simpa using HS0.out, FQ.refl _ _⟩
  case round =>
    clear HS0
    obtain ⟨a, ha1, ha5, rfl, hst, hfq⟩ := hrel
    by_cases ha4 : a ≤ 4
    · have ha4' : (a : Int) ≤ 4 := by omega
      have HST := hide hst
      have HFQ := hide hfq
      have HN := hide (show done ++ (List.range (a + 1 - 1)).flatMap (fun x => rowA (x + 1) k) = done ++ (List.range (a - 1)).flatMap (fun x => rowA (x + 1) k) ++ (List.range 4).map (fun y => ((a, y + 1, k) : T3)) by
        obtain ⟨a', rfl⟩ : ∃ a', a = a' + 1 := ⟨a - 1, by omega⟩
        show done ++ (List.range (a' + 1)).flatMap _ = _
        rw [flat_succ, ← List.append_assoc]
        rfl)
      have HDL := hide (show (done ++ (List.range (a - 1)).flatMap (fun x => rowA (x + 1) k)).length ≤ 100 by
        have := flat_le (fun x => rowA (x + 1) k) 4 (fun x => by simp [rowA]) (a - 1)
        rw [List.length_append]
        omega)
      clear hst hfq
      go_upto_region 30 with fail
      refine m_loop5 (g := g) (n := n) (c := c) (k := k) (a := a) (N := N) (F := F) (LA := LA) (AB := AB) (S := S) (BB := BB) (AA := AA) (M := M) (done := done ++ (List.range (a - 1)).flatMap (fun x => rowA (x + 1) k)) HHN.out HL.out (H.out.keep HFQ.out HG.out) HG.out hk ha1 ha4 HD.out HDL.out HST.out ?_
      intro t19 t20 t21 t22 t23 t24 t25 t26 t27 t28 t29 t30 t84 t85 t86 t87 t88 t89 t90 t91 t92 t93 t94 t95 t96 t97 t98 t99 t100 t101 t102 t103 t104 t105 t106 t107 t108 t109 t110 t111 t112 t113 t114 t115 t116 t117 t118 t119 t120 t121 t122 t123 t124 t125 t126 t127 t128 t129 t130 t131 t132 t133 t134 t135 t136 t137 t138 t139 t140 t141 t142 t143 t144 t145 t146 t147 t148 t149 t150 t151 t152 t153 t154 t155 t156 t157 t158 t159 t160 t161 t162 t163 t164 t165 t166 t167 t168 t169 t170 t171 t172 t173 t174 t175 t176 t177 t178 t179 t180 t181 t182 t183 t184 t185 t186 t187 t188 t189 t190 t191 t192 t193 t194 t195 t196 t197 t198 t199 t200 t201 t202 t203 t204 t205 t206 t207 t208 t209 t210 t211 t212 t213 t214 t215 t216 t217 t218 t219 t220 t221 t222 t223 t224 t225 t226 t227 t228 t229 t230 t231 t232 t233 t234 t235 t236 t237 t238 t239 t240 t241 t242 t243 t244 t245 t246 t247 t248 t249 t250 t251 t252 t253 t254 v' wx q1 q2
      rw [← HN.out] at q1
      have Q1 := hide q1
      have Q2 := hide (HFQ.out.trans q2)
      clear q1 q2 HST HFQ
      go_wp2
      go_roundw
      case rel => exact ⟨a + 1, by omega, by omega, by go_num, Q1.out, Q2.out⟩
      case measure => simp [intOf]; omega
    · obtain rfl : a = 5 := by omega
      have G1 := hide hst
      have G2 := hide hfq
      clear hst hfq
      go_wp2
      exact HK.out _ _ _ _ _ _ _ _ _ _ _ _ _ _ _ _ _ _ _ _ _ _ _ _ _ _ _ _ _ _ _ _ _ _ _ _ _ _ _ _ _ _ _ _ _ _ _ _ _ _ _ _ _ _ _ _ _ _ _ _ _ _ _ _ _ _ _ _ _ _ _ _ _ _ _ _ _ _ _ _ _ _ _ _ _ _ _ _ _ _ _ _ _ _ _ _ _ _ _ _ _ _ _ _ _ _ _ _ _ _ _ _ _ _ _ _ _ _ _ _ _ _ _ _ _ _ _ _ _ _ _ _ _ _ _ _ _ _ _ _ _ _ _ _ _ _ _ _ _ _ _ _ _ _ _ _ _ _ _ _ _ _ _ _ _ _ _ _ _ _ _ _ _ _ _ _ _ _ _ _ _ _ _ _ _ _ _ _ _ _ G1.out G2.out

set_option maxHeartbeats 4000000 in
theorem m_loop3 {QQ : Exit → Act → World → Prop} {g n c IT N F LA AB S BB AA : Nat} {v : Value} {M : Md} {w : World} {y1 y2 y8 y9 y10 y11 y17 y18 y19 y20 y21 y22 y23 y24 y25 y26 y27 y28 y29 y30 y31 y32 y33 y34 y35 y36 y37 y38 y39 y40 y41 y42 y43 y44 y45 y46 y47 y48 y49 y50 y51 y52 y53 y54 y55 y56 y57 y58 y59 y60 y61 y62 y63 y64 y65 y66 y67 y68 y69 y70 y71 y72 y73 y74 y75 y76 y77 y78 y79 y80 y81 y82 y83 y84 y85 y86 y87 y88 y89 y90 y91 y92 y93 y94 y95 y96 y97 y98 y99 y100 y101 y102 y103 y104 y105 y106 y107 y108 y109 y110 y111 y112 y113 y114 y115 y116 y117 y118 y119 y120 y121 y122 y123 y124 y125 y126 y127 y128 y129 y130 y131 y132 y133 y134 y135 y136 y137 y138 y139 y140 y141 y142 y143 y144 y145 y146 y147 y148 y149 y150 y151 y152 y153 y154 y155 y156 y157 y158 y159 y160 y161 y162 y163 y164 y165 y166 y167 y168 y169 y170 y171 y172 y173 y174 y175 y176 y177 y178 y179 y180 y181 y182 y183 y184 y185 y186 y187 y188 y189 y190 y191 y192 y193 y194 y195 y196 y197 y198 y199 y200 y201 y202 y203 y204 y205 y206 y207 y208 y209 y210 y211 y212 y213 y214 y215 y216 y217 y218 y219 y220 y221 y222 y223 y224 y225 y226 y227 y228 y229 y230 y231 y232 y233 y234 y235 y236 y237 y238 y239 y240 y241 y242 y243 y244 y245 y246 y247 y248 y249 y250 y251 y252 y253 y254 y255 y256 y257 y258 y259 y260 y261 y262 y263 y264 y265 y266 y267 y268 y269 y270 y271 y272 y273 y274 y275 y276 y277 y278 y279 y280 y281 y282 y283 y284 y285 y286 y287 y288 y289 y290 y291 y292 y293 y294 y295 y296 y297 y298 y299 y300 y301 y302 y303 y304 y305 : Value}
    (hn : n ≤ 256) (hl : M.L.length = n) (h : RC w g F LA AB S M) (hg : g < N) (hbd : ∀ t, M.f t ≤ 256 ∧ M.l t ≤ 256 ∧ M.s t ≤ 256) (hit : w.heap[IT]? = some (.cells itsC 56 (0, 0))) (hS : MSt N w BB AA v M [])
    (hK : ∀ (t16 t17 t18 t19 t20 t21 t22 t23 t24 t25 t26 t27 t28 t29 t30 t73 t74 t75 t76 t77 t78 t79 t80 t81 t82 t83 t84 t85 t86 t87 t88 t89 t90 t91 t92 t93 t94 t95 t96 t97 t98 t99 t100 t101 t102 t103 t104 t105 t106 t107 t108 t109 t110 t111 t112 t113 t114 t115 t116 t117 t118 t119 t120 t121 t122 t123 t124 t125 t126 t127 t128 t129 t130 t131 t132 t133 t134 t135 t136 t137 t138 t139 t140 t141 t142 t143 t144 t145 t146 t147 t148 t149 t150 t151 t152 t153 t154 t155 t156 t157 t158 t159 t160 t161 t162 t163 t164 t165 t166 t167 t168 t169 t170 t171 t172 t173 t174 t175 t176 t177 t178 t179 t180 t181 t182 t183 t184 t185 t186 t187 t188 t189 t190 t191 t192 t193 t194 t195 t196 t197 t198 t199 t200 t201 t202 t203 t204 t205 t206 t207 t208 t209 t210 t211 t212 t213 t214 t215 t216 t217 t218 t219 t220 t221 t222 t223 t224 t225 t226 t227 t228 t229 t230 t231 t232 t233 t234 t235 t236 t237 t238 t239 t240 t241 t242 t243 t244 t245 t246 t247 t248 t249 t250 t251 t252 t253 t254 : Value) (v' : Value) (wx : World), MSt N wx BB AA v' M allT → FQ N w wx → QQ (.exit 4) { tmps := List.toArray ((.slice (some ⟨g, 0, none⟩) n c) :: y1 :: y2 :: (.int .i64 (n : Int)) :: (Pp F) :: (Pp LA) :: (Pp AB) :: (Pp S) :: y8 :: y9 :: y10 :: y11 :: (Pp IT) :: (v') :: (Pp BB) :: (Pp AA) :: (t16) :: (t17) :: (t18) :: (t19) :: (t20) :: (t21) :: (t22) :: (t23) :: (t24) :: (t25) :: (t26) :: (t27) :: (t28) :: (t29) :: (t30) :: y31 :: y32 :: y33 :: y34 :: y35 :: y36 :: y37 :: y38 :: y39 :: y40 :: y41 :: y42 :: y43 :: y44 :: y45 :: y46 :: y47 :: y48 :: y49 :: y50 :: y51 :: y52 :: y53 :: y54 :: y55 :: y56 :: y57 :: y58 :: y59 :: y60 :: y61 :: y62 :: y63 :: y64 :: y65 :: y66 :: y67 :: y68 :: y69 :: y70 :: y71 :: y72 :: (t73) :: (t74) :: (t75) :: (t76) :: (t77) :: (t78) :: (t79) :: (t80) :: (t81) :: (t82) :: (t83) :: (t84) :: (t85) :: (t86) :: (t87) :: (t88) :: (t89) :: (t90) :: (t91) :: (t92) :: (t93) :: (t94) :: (t95) :: (t96) :: (t97) :: (t98) :: (t99) :: (t100) :: (t101) :: (t102) :: (t103) :: (t104) :: (t105) :: (t106) :: (t107) :: (t108) :: (t109) :: (t110) :: (t111) :: (t112) :: (t113) :: (t114) :: (t115) :: (t116) :: (t117) :: (t118) :: (t119) :: (t120) :: (t121) :: (t122) :: (t123) :: (t124) :: (t125) :: (t126) :: (t127) :: (t128) :: (t129) :: (t130) :: (t131) :: (t132) :: (t133) :: (t134) :: (t135) :: (t136) :: (t137) :: (t138) :: (t139) :: (t140) :: (t141) :: (t142) :: (t143) :: (t144) :: (t145) :: (t146) :: (t147) :: (t148) :: (t149) :: (t150) :: (t151) :: (t152) :: (t153) :: (t154) :: (t155) :: (t156) :: (t157) :: (t158) :: (t159) :: (t160) :: (t161) :: (t162) :: (t163) :: (t164) :: (t165) :: (t166) :: (t167) :: (t168) :: (t169) :: (t170) :: (t171) :: (t172) :: (t173) :: (t174) :: (t175) :: (t176) :: (t177) :: (t178) :: (t179) :: (t180) :: (t181) :: (t182) :: (t183) :: (t184) :: (t185) :: (t186) :: (t187) :: (t188) :: (t189) :: (t190) :: (t191) :: (t192) :: (t193) :: (t194) :: (t195) :: (t196) :: (t197) :: (t198) :: (t199) :: (t200) :: (t201) :: (t202) :: (t203) :: (t204) :: (t205) :: (t206) :: (t207) :: (t208) :: (t209) :: (t210) :: (t211) :: (t212) :: (t213) :: (t214) :: (t215) :: (t216) :: (t217) :: (t218) :: (t219) :: (t220) :: (t221) :: (t222) :: (t223) :: (t224) :: (t225) :: (t226) :: (t227) :: (t228) :: (t229) :: (t230) :: (t231) :: (t232) :: (t233) :: (t234) :: (t235) :: (t236) :: (t237) :: (t238) :: (t239) :: (t240) :: (t241) :: (t242) :: (t243) :: (t244) :: (t245) :: (t246) :: (t247) :: (t248) :: (t249) :: (t250) :: (t251) :: (t252) :: (t253) :: (t254) :: y255 :: y256 :: y257 :: y258 :: y259 :: y260 :: y261 :: y262 :: y263 :: y264 :: y265 :: y266 :: y267 :: y268 :: y269 :: y270 :: y271 :: y272 :: y273 :: y274 :: y275 :: y276 :: y277 :: y278 :: y279 :: y280 :: y281 :: y282 :: y283 :: y284 :: y285 :: y286 :: y287 :: y288 :: y289 :: y290 :: y291 :: y292 :: y293 :: y294 :: y295 :: y296 :: y297 :: y298 :: y299 :: y300 :: y301 :: y302 :: y303 :: y304 :: y305 :: []), defers := [] } wx) :
    Code.wp Yba.prog (lpOf Yba.f16.body 2) QQ { tmps := List.toArray ((.slice (some ⟨g, 0, none⟩) n c) :: y1 :: y2 :: (.int .i64 (n : Int)) :: (Pp F) :: (Pp LA) :: (Pp AB) :: (Pp S) :: y8 :: y9 :: y10 :: y11 :: (Pp IT) :: (v) :: (Pp BB) :: (Pp AA) :: (.int .i64 0) :: y17 :: y18 :: y19 :: y20 :: y21 :: y22 :: y23 :: y24 :: y25 :: y26 :: y27 :: y28 :: y29 :: y30 :: y31 :: y32 :: y33 :: y34 :: y35 :: y36 :: y37 :: y38 :: y39 :: y40 :: y41 :: y42 :: y43 :: y44 :: y45 :: y46 :: y47 :: y48 :: y49 :: y50 :: y51 :: y52 :: y53 :: y54 :: y55 :: y56 :: y57 :: y58 :: y59 :: y60 :: y61 :: y62 :: y63 :: y64 :: y65 :: y66 :: y67 :: y68 :: y69 :: y70 :: y71 :: y72 :: y73 :: y74 :: y75 :: y76 :: y77 :: y78 :: y79 :: y80 :: y81 :: y82 :: y83 :: y84 :: y85 :: y86 :: y87 :: y88 :: y89 :: y90 :: y91 :: y92 :: y93 :: y94 :: y95 :: y96 :: y97 :: y98 :: y99 :: y100 :: y101 :: y102 :: y103 :: y104 :: y105 :: y106 :: y107 :: y108 :: y109 :: y110 :: y111 :: y112 :: y113 :: y114 :: y115 :: y116 :: y117 :: y118 :: y119 :: y120 :: y121 :: y122 :: y123 :: y124 :: y125 :: y126 :: y127 :: y128 :: y129 :: y130 :: y131 :: y132 :: y133 :: y134 :: y135 :: y136 :: y137 :: y138 :: y139 :: y140 :: y141 :: y142 :: y143 :: y144 :: y145 :: y146 :: y147 :: y148 :: y149 :: y150 :: y151 :: y152 :: y153 :: y154 :: y155 :: y156 :: y157 :: y158 :: y159 :: y160 :: y161 :: y162 :: y163 :: y164 :: y165 :: y166 :: y167 :: y168 :: y169 :: y170 :: y171 :: y172 :: y173 :: y174 :: y175 :: y176 :: y177 :: y178 :: y179 :: y180 :: y181 :: y182 :: y183 :: y184 :: y185 :: y186 :: y187 :: y188 :: y189 :: y190 :: y191 :: y192 :: y193 :: y194 :: y195 :: y196 :: y197 :: y198 :: y199 :: y200 :: y201 :: y202 :: y203 :: y204 :: y205 :: y206 :: y207 :: y208 :: y209 :: y210 :: y211 :: y212 :: y213 :: y214 :: y215 :: y216 :: y217 :: y218 :: y219 :: y220 :: y221 :: y222 :: y223 :: y224 :: y225 :: y226 :: y227 :: y228 :: y229 :: y230 :: y231 :: y232 :: y233 :: y234 :: y235 :: y236 :: y237 :: y238 :: y239 :: y240 :: y241 :: y242 :: y243 :: y244 :: y245 :: y246 :: y247 :: y248 :: y249 :: y250 :: y251 :: y252 :: y253 :: y254 :: y255 :: y256 :: y257 :: y258 :: y259 :: y260 :: y261 :: y262 :: y263 :: y264 :: y265 :: y266 :: y267 :: y268 :: y269 :: y270 :: y271 :: y272 :: y273 :: y274 :: y275 :: y276 :: y277 :: y278 :: y279 :: y280 :: y281 :: y282 :: y283 :: y284 :: y285 :: y286 :: y287 :: y288 :: y289 :: y290 :: y291 :: y292 :: y293 :: y294 :: y295 :: y296 :: y297 :: y298 :: y299 :: y300 :: y301 :: y302 :: y303 :: y304 :: y305 :: []), defers := [] } w := by
  have HK := hide hK
  clear hK
  have H := hide h
  have HL := hide hl
  have HD := hide hbd
  have HS0 := hide hS
  have HHN := hide hn
  have HG := hide hg
  have HI := hide hit
  clear h hl hbd hS hn hg hit
  conv => arg 2; whnf
  go_loopw [13, 16] (fun u q wx => ∃ (k : Nat), k ≤ 3 ∧ q = .int .i64 (k : Int) ∧ MSt N wx BB AA u M ((List.range k).flatMap rowK) ∧ FQ N w wx) (fun u q _ => 3 - (intOf q).toNat)
  case atStart => exact ⟨0, by omega, rfl, by simpa using HS0.out, FQ.refl _ _⟩
  case round =>
    clear HS0
    obtain ⟨k, hk3, rfl, hst, hfq⟩ := hrel
    by_cases hk : k < 3
    · have hk' : (k : Int) < 3 := by omega
      have HST := hide hst
      have HFQ := hide hfq
      have c1 := its_at (hfq.keep _ _ _ _ HI.out (by decide) (by decide)) hk
      have HDL := hide (show ((List.range k).flatMap rowK).length ≤ 80 by
        have := flat_le rowK 16 (fun x => by
          have := flat_le (fun y => rowA (y + 1) x) 4 (fun y => by simp [rowA]) 4
          exact this) k
        omega)
      have HN := hide (flat_succ rowK k)
      clear hst hfq
      go_upto_region 27 with fail
      refine m_loop4 (g := g) (n := n) (c := c) (k := k) (N := N) (F := F) (LA := LA) (AB := AB) (S := S) (BB := BB) (AA := AA) (M := M) (done := (List.range k).flatMap rowK) HHN.out HL.out (H.out.keep HFQ.out HG.out) HG.out HD.out hk HDL.out HST.out ?_
      intro t18 t19 t20 t21 t22 t23 t24 t25 t26 t27 t28 t29 t30 t80 t81 t82 t83 t84 t85 t86 t87 t88 t89 t90 t91 t92 t93 t94 t95 t96 t97 t98 t99 t100 t101 t102 t103 t104 t105 t106 t107 t108 t109 t110 t111 t112 t113 t114 t115 t116 t117 t118 t119 t120 t121 t122 t123 t124 t125 t126 t127 t128 t129 t130 t131 t132 t133 t134 t135 t136 t137 t138 t139 t140 t141 t142 t143 t144 t145 t146 t147 t148 t149 t150 t151 t152 t153 t154 t155 t156 t157 t158 t159 t160 t161 t162 t163 t164 t165 t166 t167 t168 t169 t170 t171 t172 t173 t174 t175 t176 t177 t178 t179 t180 t181 t182 t183 t184 t185 t186 t187 t188 t189 t190 t191 t192 t193 t194 t195 t196 t197 t198 t199 t200 t201 t202 t203 t204 t205 t206 t207 t208 t209 t210 t211 t212 t213 t214 t215 t216 t217 t218 t219 t220 t221 t222 t223 t224 t225 t226 t227 t228 t229 t230 t231 t232 t233 t234 t235 t236 t237 t238 t239 t240 t241 t242 t243 t244 t245 t246 t247 t248 t249 t250 t251 t252 t253 t254 v' wx q1 q2
      rw [← HN.out] at q1
      have Q1 := hide q1
      have Q2 := hide (HFQ.out.trans q2)
      clear q1 q2 HST HFQ
      go_wp2
      go_roundw
      case rel => exact ⟨k + 1, by omega, by go_num, Q1.out, Q2.out⟩
      case measure => simp [intOf]; omega
    · obtain rfl : k = 3 := by omega
      have G1 := hide hst
      have G2 := hide hfq
      clear hst hfq
      go_wp2
      exact HK.out _ _ _ _ _ _ _ _ _ _ _ _ _ _ _ _ _ _ _ _ _ _ _ _ _ _ _ _ _ _ _ _ _ _ _ _ _ _ _ _ _ _ _ _ _ _ _ _ _ _ _ _ _ _ _ _ _ _ _ _ _ _ _ _ _ _ _ _ _ _ _ _ _ _ _ _ _ _ _ _ _ _ _ _ _ _ _ _ _ _ _ _ _ _ _ _ _ _ _ _ _ _ _ _ _ _ _ _ _ _ _ _ _ _ _ _ _ _ _ _ _ _ _ _ _ _ _ _ _ _ _ _ _ _ _ _ _ _ _ _ _ _ _ _ _ _ _ _ _ _ _ _ _ _ _ _ _ _ _ _ _ _ _ _ _ _ _ _ _ _ _ _ _ _ _ _ _ _ _ _ _ _ _ _ _ _ _ _ _ _ _ _ _ _ _ _ _ _ _ G1.out G2.out

end Go.Proofs.Ybulkaggi.BM

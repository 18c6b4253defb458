import Derived.Test.YbulkagfuFmtG2b
namespace Go.Proofs.YbulkagfuFmt
open Go.RowKit Go.WideMaps Go.Maps Go.Extern.Stop Go.Stop Go.Extern Go.MuLone
set_option linter.unusedVariables false
set_option maxRecDepth 100000

set_option maxHeartbeats 4000000 in
theorem loop2 {QQ : Exit → Act → World → Prop} {n kk sb rb mb base : Nat} {rm ib : Option Nat} {sf : ByteArray} {marks lens : Int} {w : World} {cs0 : Array Value} {y0 y1 y2 y5 y6 y7 y8 y9 y10 y11 y12 y15 y16 y17 y21 y22 y23 y24 y25 y26 y27 y28 y29 y30 y31 y32 y33 y34 y35 y36 y37 y38 y39 y40 y41 y42 y43 y44 y45 y46 y47 y48 y49 y50 y51 y52 y53 y54 y55 y56 y57 y58 y59 y60 y61 y62 y63 y64 y65 y66 y67 y68 y69 y70 y71 y72 y73 y74 y75 y76 y77 y78 y79 y80 y81 y82 y83 y84 y85 y86 y87 y88 y89 y90 y91 y92 y93 y94 y95 y96 y97 y98 y99 y100 y101 y102 y103 y104 y105 y106 y107 y108 y109 y110 y111 y112 y113 y114 y115 y116 y117 y118 y119 y120 y121 y122 y123 y124 y125 y126 y127 y128 y129 y130 y131 y132 y133 y134 y135 y136 y137 y138 y139 y140 y141 y142 y143 y144 y145 y146 y147 y148 y149 y150 y151 y152 y153 y154 y155 y156 y157 y158 y159 y160 y161 y162 y163 y164 y165 y166 y167 y168 y169 y170 y171 y172 y173 y174 y175 y176 y177 y178 y179 y180 y181 y182 y183 y184 y185 y186 y187 y188 y189 y190 y191 y192 y193 y194 y195 y196 y197 y198 y199 y200 y201 y202 y203 y204 y205 y206 y207 y208 y209 y210 y211 y212 y213 y214 y215 y216 y217 y218 y219 y220 y221 y222 y223 y224 y225 y226 y227 y228 y229 y230 y231 y232 y233 y234 y235 y236 y237 y238 y239 y240 y241 y242 y243 y244 y245 y246 y247 y248 y249 y250 y251 y252 y253 y254 y255 y256 y257 y258 y259 y260 y261 y262 y263 y264 y265 y266 y267 y268 y269 y270 y271 y272 y273 y274 y275 y276 y277 y278 y279 y280 y281 y282 y283 y284 y285 y286 y287 y288 y289 : Value}
    (hn : n ≤ 4) (hkk : kk ≤ 4) (hm0 : 0 ≤ marks) (hm1 : marks < 18446744073709551616) (hl0 : 0 ≤ lens) (hl1 : lens < 18446744073709551616)
    (hs : w.heap[sb]? = some (.cells (snapC 0 sf ib rm) 38 (0, 0))) (hrb : w.heap[rb]? = some (.cells cs0 40 (0, 0))) (hcs0 : cs0.size = kk) (hrm : 0 < kk → rm = some mb) (hD : 0 < kk → w.ownsMap Ybaf.prog 49 ptrElem mb 0 (.map [] : DataW Unit)) (hbase : base ≤ w.heap.size)
    (hK : ∀ (t20 t21 t22 t23 t24 t25 t26 t27 t72 t73 t74 t75 t76 t77 t78 t79 t80 t81 t82 t83 t84 t85 t86 t87 t88 t89 t90 t91 t92 t93 t94 t95 t96 t97 t98 t99 t100 t101 t102 t103 t104 t105 t106 t107 t108 t109 t110 t111 t112 t113 t114 t115 t116 t117 t118 t119 t120 t121 t122 t123 t124 t125 t126 t127 t128 t129 t130 t131 t132 t133 t134 t135 t136 t137 t138 t139 t140 t141 t142 t143 t144 t145 t146 t147 t148 t149 t150 t151 t152 t153 t154 t155 : Value) (wx : World), (∃ R M K B, Built w base n kk rb mb marks lens kk wx R M K B) → QQ (.exit 2) { tmps := List.toArray (y0 :: y1 :: y2 :: (.int .u64 marks) :: (.int .u64 lens) :: y5 :: y6 :: y7 :: y8 :: y9 :: y10 :: y11 :: y12 :: (.int .i64 (n : Int)) :: (.int .i64 (kk : Int)) :: y15 :: y16 :: y17 :: (.pointer (some ⟨sb, 0, none⟩)) :: (.slice (some ⟨rb, 0, none⟩) kk kk) :: (t20) :: (t21) :: (t22) :: (t23) :: (t24) :: (t25) :: (t26) :: (t27) :: y28 :: y29 :: y30 :: y31 :: y32 :: y33 :: y34 :: y35 :: y36 :: y37 :: y38 :: y39 :: y40 :: y41 :: y42 :: y43 :: y44 :: y45 :: y46 :: y47 :: y48 :: y49 :: y50 :: y51 :: y52 :: y53 :: y54 :: y55 :: y56 :: y57 :: y58 :: y59 :: y60 :: y61 :: y62 :: y63 :: y64 :: y65 :: y66 :: y67 :: y68 :: y69 :: y70 :: y71 :: (t72) :: (t73) :: (t74) :: (t75) :: (t76) :: (t77) :: (t78) :: (t79) :: (t80) :: (t81) :: (t82) :: (t83) :: (t84) :: (t85) :: (t86) :: (t87) :: (t88) :: (t89) :: (t90) :: (t91) :: (t92) :: (t93) :: (t94) :: (t95) :: (t96) :: (t97) :: (t98) :: (t99) :: (t100) :: (t101) :: (t102) :: (t103) :: (t104) :: (t105) :: (t106) :: (t107) :: (t108) :: (t109) :: (t110) :: (t111) :: (t112) :: (t113) :: (t114) :: (t115) :: (t116) :: (t117) :: (t118) :: (t119) :: (t120) :: (t121) :: (t122) :: (t123) :: (t124) :: (t125) :: (t126) :: (t127) :: (t128) :: (t129) :: (t130) :: (t131) :: (t132) :: (t133) :: (t134) :: (t135) :: (t136) :: (t137) :: (t138) :: (t139) :: (t140) :: (t141) :: (t142) :: (t143) :: (t144) :: (t145) :: (t146) :: (t147) :: (t148) :: (t149) :: (t150) :: (t151) :: (t152) :: (t153) :: (t154) :: (t155) :: y156 :: y157 :: y158 :: y159 :: y160 :: y161 :: y162 :: y163 :: y164 :: y165 :: y166 :: y167 :: y168 :: y169 :: y170 :: y171 :: y172 :: y173 :: y174 :: y175 :: y176 :: y177 :: y178 :: y179 :: y180 :: y181 :: y182 :: y183 :: y184 :: y185 :: y186 :: y187 :: y188 :: y189 :: y190 :: y191 :: y192 :: y193 :: y194 :: y195 :: y196 :: y197 :: y198 :: y199 :: y200 :: y201 :: y202 :: y203 :: y204 :: y205 :: y206 :: y207 :: y208 :: y209 :: y210 :: y211 :: y212 :: y213 :: y214 :: y215 :: y216 :: y217 :: y218 :: y219 :: y220 :: y221 :: y222 :: y223 :: y224 :: y225 :: y226 :: y227 :: y228 :: y229 :: y230 :: y231 :: y232 :: y233 :: y234 :: y235 :: y236 :: y237 :: y238 :: y239 :: y240 :: y241 :: y242 :: y243 :: y244 :: y245 :: y246 :: y247 :: y248 :: y249 :: y250 :: y251 :: y252 :: y253 :: y254 :: y255 :: y256 :: y257 :: y258 :: y259 :: y260 :: y261 :: y262 :: y263 :: y264 :: y265 :: y266 :: y267 :: y268 :: y269 :: y270 :: y271 :: y272 :: y273 :: y274 :: y275 :: y276 :: y277 :: y278 :: y279 :: y280 :: y281 :: y282 :: y283 :: y284 :: y285 :: y286 :: y287 :: y288 :: y289 :: []), defers := [] } wx) :
    Code.wp Ybaf.prog (lpOf Ybaf.f3.body 1) QQ { tmps := List.toArray (y0 :: y1 :: y2 :: (.int .u64 marks) :: (.int .u64 lens) :: y5 :: y6 :: y7 :: y8 :: y9 :: y10 :: y11 :: y12 :: (.int .i64 (n : Int)) :: (.int .i64 (kk : Int)) :: y15 :: y16 :: y17 :: (.pointer (some ⟨sb, 0, none⟩)) :: (.slice (some ⟨rb, 0, none⟩) kk kk) :: (.int .i64 0) :: y21 :: y22 :: y23 :: y24 :: y25 :: y26 :: y27 :: y28 :: y29 :: y30 :: y31 :: y32 :: y33 :: y34 :: y35 :: y36 :: y37 :: y38 :: y39 :: y40 :: y41 :: y42 :: y43 :: y44 :: y45 :: y46 :: y47 :: y48 :: y49 :: y50 :: y51 :: y52 :: y53 :: y54 :: y55 :: y56 :: y57 :: y58 :: y59 :: y60 :: y61 :: y62 :: y63 :: y64 :: y65 :: y66 :: y67 :: y68 :: y69 :: y70 :: y71 :: y72 :: y73 :: y74 :: y75 :: y76 :: y77 :: y78 :: y79 :: y80 :: y81 :: y82 :: y83 :: y84 :: y85 :: y86 :: y87 :: y88 :: y89 :: y90 :: y91 :: y92 :: y93 :: y94 :: y95 :: y96 :: y97 :: y98 :: y99 :: y100 :: y101 :: y102 :: y103 :: y104 :: y105 :: y106 :: y107 :: y108 :: y109 :: y110 :: y111 :: y112 :: y113 :: y114 :: y115 :: y116 :: y117 :: y118 :: y119 :: y120 :: y121 :: y122 :: y123 :: y124 :: y125 :: y126 :: y127 :: y128 :: y129 :: y130 :: y131 :: y132 :: y133 :: y134 :: y135 :: y136 :: y137 :: y138 :: y139 :: y140 :: y141 :: y142 :: y143 :: y144 :: y145 :: y146 :: y147 :: y148 :: y149 :: y150 :: y151 :: y152 :: y153 :: y154 :: y155 :: y156 :: y157 :: y158 :: y159 :: y160 :: y161 :: y162 :: y163 :: y164 :: y165 :: y166 :: y167 :: y168 :: y169 :: y170 :: y171 :: y172 :: y173 :: y174 :: y175 :: y176 :: y177 :: y178 :: y179 :: y180 :: y181 :: y182 :: y183 :: y184 :: y185 :: y186 :: y187 :: y188 :: y189 :: y190 :: y191 :: y192 :: y193 :: y194 :: y195 :: y196 :: y197 :: y198 :: y199 :: y200 :: y201 :: y202 :: y203 :: y204 :: y205 :: y206 :: y207 :: y208 :: y209 :: y210 :: y211 :: y212 :: y213 :: y214 :: y215 :: y216 :: y217 :: y218 :: y219 :: y220 :: y221 :: y222 :: y223 :: y224 :: y225 :: y226 :: y227 :: y228 :: y229 :: y230 :: y231 :: y232 :: y233 :: y234 :: y235 :: y236 :: y237 :: y238 :: y239 :: y240 :: y241 :: y242 :: y243 :: y244 :: y245 :: y246 :: y247 :: y248 :: y249 :: y250 :: y251 :: y252 :: y253 :: y254 :: y255 :: y256 :: y257 :: y258 :: y259 :: y260 :: y261 :: y262 :: y263 :: y264 :: y265 :: y266 :: y267 :: y268 :: y269 :: y270 :: y271 :: y272 :: y273 :: y274 :: y275 :: y276 :: y277 :: y278 :: y279 :: y280 :: y281 :: y282 :: y283 :: y284 :: y285 :: y286 :: y287 :: y288 :: y289 :: []), defers := [] } w := by
  have HK := hide hK
  clear hK
  conv => arg 2; whnf
  go_loopw [20] (fun v wx => ∃ i : Nat, i ≤ kk ∧ v = .int .i64 (i : Int) ∧ ∃ R M K B, Built w base n kk rb mb marks lens i wx R M K B) (fun v _ => kk - (intOf v).toNat)
  case atStart =>
    refine ⟨0, by omega, rfl, fun _ => 0, fun _ => 0, fun _ => 0, fun _ _ => none, ⟨fun a ha => absurd ha (by omega), fun a j a' j' k ha => absurd ha (by omega), fun a a' ha => absurd ha (by omega)⟩, fun a ha => absurd ha (by omega), ⟨cs0, hrb, hcs0, fun a ha => absurd ha (by omega)⟩, hD, But.refl _ _⟩
  case round =>
    obtain ⟨i, hi, rfl, R, M, K, B, hBu⟩ := hrel
    by_cases hik : i < kk
    · have hik' : (i : Int) < (kk : Int) := by omega
      have HB := hide hBu
      clear hBu
      go_upto_region 16 with fail
      refine region16 hn ?_
      intro r mB kB t77 t78 t79 t80 t81 t82 w1 e1 e2 e3 hrec hbel
      have hsz := hbel.size
      have Hbel := hide hbel
      clear hbel
      go_upto_region 18 with fail
      refine loop3 (r0 := wr.heap.size) (by omega) hn hm0 hm1 hl0 hl1 hrec (fun a b k _ _ h => by simp at h) e1 e2 e3 hsz ?_
      rintro t22 t23 t24 t25 t26 t27 t83 t84 t85 t86 t87 t88 t89 t90 t91 t92 t93 t94 t95 t96 t97 t98 t99 t100 t101 t102 t103 t104 t105 t106 t107 t108 t109 t110 t111 t112 t113 t114 t115 t116 t117 t118 t119 t120 t121 t122 t123 t124 t125 t126 t127 t128 t129 t130 t131 t132 t133 t134 t135 t136 t137 t138 t139 t140 t141 t142 w2 ⟨Bn, hR2, hinj⟩ hbel2
      have hb := HB.out
      obtain ⟨cs, q1, q2, q3⟩ := hb.row
      have hbelow : Below wr.heap.size wr w2 := Hbel.out.trans hbel2
      have hrbl : rb < wr.heap.size := (Array.getElem?_eq_some_iff.1 q1).1
      have q1' : w2.heap[rb]? = some (.cells cs 40 (0, 0)) := (hbelow.block rb hrbl).trans q1
      have n1 : sb ≠ rb := tag_ne hs hrb (by decide)
      have n2 : mb ≠ sb := map_ne hs (hD (by omega))
      have n3 : mb ≠ rb := map_ne hrb (hD (by omega))
      have hsl : sb < w.heap.size := (Array.getElem?_eq_some_iff.1 hs).1
      have hszw := hb.but.size
      have s1 : wr.heap[sb]? = some (.cells (snapC 0 sf ib rm) 38 (0, 0)) := (hb.but.block sb hsl (by rintro (e | e) <;> omega)).trans hs
      have s2 : w2.heap[sb]? = some (.cells (snapC 0 sf ib rm) 38 (0, 0)) := (hbelow.block sb (by omega)).trans s1
      have s3 : (w2.setCell ⟨rb, i, none⟩ (.pointer (some ⟨r, 0, none⟩))).heap[sb]? = some (.cells (snapC 0 sf ib rm) 38 (0, 0)) := (Below.heap_setCell w2 ⟨rb, i, none⟩ _ sb n1).trans s2
      have hD1 := hb.data (by omega)
      have hD3 := (ownsMap_keep hD1 (hbelow.block mb (ownsMap_lt hD1))).setCell (a := ⟨rb, i, none⟩) n3 (.pointer (some ⟨r, 0, none⟩))
      obtain ⟨W4, hrun, hD4, hg4⟩ := hD3.update lawK Ybaf.underlying35 (by unfold maxLen; omega) (key49 (i + 1) (by omega)) (ptrElem_mk r)
      rw [show ((i + 1 : Nat) : Int) = (i : Int) + 1 from by simp] at hrun
      have KB := hide (hb.next hik hkk (by omega) hbelow hR2 hinj e2 hD4 hg4)
      have hrm' := hrm (by omega)
      rw [hrm'] at s3
      have c7 := (cell_at s3 7).trans rfl
      obtain ⟨v0, ev0⟩ : ∃ v, cs[i]? = some v := ⟨cs[i]'(by omega), by simp [q2, hik]⟩
      have c1 := (cell_at q1' i).trans ev0
      have z1 := free_at q1' i
      clear hD4 hg4 hD3 hD1 s1 s2 s3 hb q1 q1' q3 hR2 hinj hbel2 Hbel hbelow HB hrec
      go_wp2
      go_roundw
      case rel => exact ⟨i + 1, by omega, by simp, _, _, _, _, KB.out⟩
      case measure => simp [intOf]; omega
    · have e : i = kk := by omega
      subst e
      go_wp2
      exact HK.out _ _ _ _ _ _ _ _ _ _ _ _ _ _ _ _ _ _ _ _ _ _ _ _ _ _ _ _ _ _ _ _ _ _ _ _ _ _ _ _ _ _ _ _ _ _ _ _ _ _ _ _ _ _ _ _ _ _ _ _ _ _ _ _ _ _ _ _ _ _ _ _ _ _ _ _ _ _ _ _ _ _ _ _ _ _ _ _ _ _ _ _ _ ⟨R, M, K, B, hBu⟩

end Go.Proofs.YbulkagfuFmt

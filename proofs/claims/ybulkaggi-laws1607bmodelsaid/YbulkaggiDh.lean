import Derived.Test.YbulkaggiDg
import Derived.Test.YbulkaggiDf
namespace Go.Proofs.Ybulkaggi.BM
open Go.RowKit Go.Proofs.Ybulkaggi Go.Sort Go.Shelf Go.Lib
open Go.Proofs.Ybulkaggi.CE (hlt tag_ne own_tag own_keep size_set info_at rgOf)
set_option linter.unusedVariables false
set_option maxRecDepth 100000

def MP (N : Nat) (w : World) (BB AA : Nat) (v : Value) (bf af : T3 → Bool) (ks : List Key) : Prop := ∃ fl : List An2, MD N w BB AA fl v bf af ∧ fl.map An2.key = ks
def k2 (bf af : T3 → Bool) (a b i j : Nat) : List Key := ad (!decide (i = j) && bf (a, b, i) && af (a, b, j)) (2, (a : Int), (b : Int), [itS i, itS j])
def kI (bf af : T3 → Bool) (a b i : Nat) : List Key := (List.range 3).flatMap (k2 bf af a b i)
def kP (bf af : T3 → Bool) (a b : Nat) : List Key := (List.range 3).flatMap (kI bf af a b)
def kA (bf af : T3 → Bool) (a : Nat) : List Key := (List.range 4).flatMap (fun y => kP bf af a (y + 1))
def kW (bf af : T3 → Bool) : List Key := (List.range 4).flatMap (fun x => kA bf af (x + 1))
theorem kI_len (bf af : T3 → Bool) (a b i : Nat) : (kI bf af a b i).length ≤ 3 := flat_le _ 1 (fun j => ad_len _ _) 3
theorem kP_len (bf af : T3 → Bool) (a b : Nat) : (kP bf af a b).length ≤ 9 := flat_le _ 3 (fun i => kI_len _ _ _ _ _) 3
theorem kA_len (bf af : T3 → Bool) (a : Nat) : (kA bf af a).length ≤ 36 := flat_le _ 9 (fun y => kP_len _ _ _ _) 4

set_option maxHeartbeats 4000000 in
theorem m_loop14 {QQ : Exit → Act → World → Prop} {a b i : Nat} {IT N BB AA : Nat} {v : Value} {bf af : T3 → Bool} {ks : List Key} {w : World} {y0 y1 y2 y3 y4 y5 y6 y7 y8 y9 y10 y11 y16 y17 y18 y19 y20 y21 y22 y23 y24 y25 y26 y27 y28 y29 y30 y35 y36 y37 y38 y39 y40 y41 y42 y43 y44 y45 y46 y47 y48 y49 y50 y51 y52 y53 y54 y55 y56 y57 y58 y59 y60 y61 y62 y63 y64 y65 y66 y67 y68 y69 y70 y71 y72 y73 y74 y75 y76 y77 y78 y79 y80 y81 y82 y83 y84 y85 y86 y87 y88 y89 y90 y91 y92 y93 y94 y95 y96 y97 y98 y99 y100 y101 y102 y103 y104 y105 y106 y107 y108 y109 y110 y111 y112 y113 y114 y115 y116 y117 y118 y119 y120 y121 y122 y123 y124 y125 y126 y127 y128 y129 y130 y131 y132 y133 y134 y135 y136 y137 y138 y139 y140 y141 y142 y143 y144 y145 y146 y147 y148 y149 y150 y151 y152 y153 y154 y155 y156 y157 y158 y159 y160 y161 y162 y163 y164 y165 y166 y167 y168 y169 y170 y171 y172 y173 y174 y175 y176 y177 y178 y179 y180 y181 y182 y183 y184 y185 y186 y187 y188 y189 y190 y191 y192 y193 y194 y195 y196 y197 y198 y199 y200 y201 y202 y203 y204 y205 y206 y207 y208 y209 y210 y211 y212 y213 y214 y215 y216 y217 y218 y219 y220 y221 y222 y223 y224 y225 y226 y227 y228 y229 y230 y231 y232 y233 y234 y235 y236 y237 y238 y239 y240 y241 y242 y243 y244 y245 y246 y247 y248 y249 y250 y251 y252 y253 y254 y255 y256 y257 y258 y259 y260 y261 y262 y263 y264 y265 y266 y267 y268 y269 y270 y271 y272 y273 y274 y275 y276 y277 y278 y279 y280 y281 y282 y283 y284 y285 y286 y287 y288 y289 y290 y291 y292 y293 y294 y295 y296 y297 y298 y299 y300 y301 y302 y303 y304 y305 : Value}
    (ha : a ≤ 4) (hb : b ≤ 4) (hi : i < 3) (hks : ks.length ≤ 1000) (hit : w.heap[IT]? = some (.cells itsC 56 (0, 0))) (hS : MP N w BB AA v bf af ks)
    (hK : ∀ (t34 t267 t268 t269 t270 t271 t272 t273 t274 t275 t276 t277 t278 t279 t280 t281 t282 t283 t284 t285 t286 t287 t288 t289 t290 t291 t292 t293 t294 t295 t296 t297 t298 t299 t300 t301 t302 t303 t304 : Value) (v' : Value) (wx : World), MP N wx BB AA v' bf af (ks ++ kI bf af a b i) → FQ N w wx → QQ (.exit 26) { tmps := List.toArray (y0 :: y1 :: y2 :: y3 :: y4 :: y5 :: y6 :: y7 :: y8 :: y9 :: y10 :: y11 :: (Pp IT) :: (v') :: (Pp BB) :: (Pp AA) :: y16 :: y17 :: y18 :: y19 :: y20 :: y21 :: y22 :: y23 :: y24 :: y25 :: y26 :: y27 :: y28 :: y29 :: y30 :: (.int .i64 (a : Int)) :: (.int .i64 (b : Int)) :: (.int .i64 (i : Int)) :: (t34) :: y35 :: y36 :: y37 :: y38 :: y39 :: y40 :: y41 :: y42 :: y43 :: y44 :: y45 :: y46 :: y47 :: y48 :: y49 :: y50 :: y51 :: y52 :: y53 :: y54 :: y55 :: y56 :: y57 :: y58 :: y59 :: y60 :: y61 :: y62 :: y63 :: y64 :: y65 :: y66 :: y67 :: y68 :: y69 :: y70 :: y71 :: y72 :: y73 :: y74 :: y75 :: y76 :: y77 :: y78 :: y79 :: y80 :: y81 :: y82 :: y83 :: y84 :: y85 :: y86 :: y87 :: y88 :: y89 :: y90 :: y91 :: y92 :: y93 :: y94 :: y95 :: y96 :: y97 :: y98 :: y99 :: y100 :: y101 :: y102 :: y103 :: y104 :: y105 :: y106 :: y107 :: y108 :: y109 :: y110 :: y111 :: y112 :: y113 :: y114 :: y115 :: y116 :: y117 :: y118 :: y119 :: y120 :: y121 :: y122 :: y123 :: y124 :: y125 :: y126 :: y127 :: y128 :: y129 :: y130 :: y131 :: y132 :: y133 :: y134 :: y135 :: y136 :: y137 :: y138 :: y139 :: y140 :: y141 :: y142 :: y143 :: y144 :: y145 :: y146 :: y147 :: y148 :: y149 :: y150 :: y151 :: y152 :: y153 :: y154 :: y155 :: y156 :: y157 :: y158 :: y159 :: y160 :: y161 :: y162 :: y163 :: y164 :: y165 :: y166 :: y167 :: y168 :: y169 :: y170 :: y171 :: y172 :: y173 :: y174 :: y175 :: y176 :: y177 :: y178 :: y179 :: y180 :: y181 :: y182 :: y183 :: y184 :: y185 :: y186 :: y187 :: y188 :: y189 :: y190 :: y191 :: y192 :: y193 :: y194 :: y195 :: y196 :: y197 :: y198 :: y199 :: y200 :: y201 :: y202 :: y203 :: y204 :: y205 :: y206 :: y207 :: y208 :: y209 :: y210 :: y211 :: y212 :: y213 :: y214 :: y215 :: y216 :: y217 :: y218 :: y219 :: y220 :: y221 :: y222 :: y223 :: y224 :: y225 :: y226 :: y227 :: y228 :: y229 :: y230 :: y231 :: y232 :: y233 :: y234 :: y235 :: y236 :: y237 :: y238 :: y239 :: y240 :: y241 :: y242 :: y243 :: y244 :: y245 :: y246 :: y247 :: y248 :: y249 :: y250 :: y251 :: y252 :: y253 :: y254 :: y255 :: y256 :: y257 :: y258 :: y259 :: y260 :: y261 :: y262 :: y263 :: y264 :: y265 :: y266 :: (t267) :: (t268) :: (t269) :: (t270) :: (t271) :: (t272) :: (t273) :: (t274) :: (t275) :: (t276) :: (t277) :: (t278) :: (t279) :: (t280) :: (t281) :: (t282) :: (t283) :: (t284) :: (t285) :: (t286) :: (t287) :: (t288) :: (t289) :: (t290) :: (t291) :: (t292) :: (t293) :: (t294) :: (t295) :: (t296) :: (t297) :: (t298) :: (t299) :: (t300) :: (t301) :: (t302) :: (t303) :: (t304) :: y305 :: []), defers := [] } wx) :
    Code.wp Yba.prog (lpOf Yba.f16.body 13) QQ { tmps := List.toArray (y0 :: y1 :: y2 :: y3 :: y4 :: y5 :: y6 :: y7 :: y8 :: y9 :: y10 :: y11 :: (Pp IT) :: (v) :: (Pp BB) :: (Pp AA) :: y16 :: y17 :: y18 :: y19 :: y20 :: y21 :: y22 :: y23 :: y24 :: y25 :: y26 :: y27 :: y28 :: y29 :: y30 :: (.int .i64 (a : Int)) :: (.int .i64 (b : Int)) :: (.int .i64 (i : Int)) :: (.int .i64 0) :: y35 :: y36 :: y37 :: y38 :: y39 :: y40 :: y41 :: y42 :: y43 :: y44 :: y45 :: y46 :: y47 :: y48 :: y49 :: y50 :: y51 :: y52 :: y53 :: y54 :: y55 :: y56 :: y57 :: y58 :: y59 :: y60 :: y61 :: y62 :: y63 :: y64 :: y65 :: y66 :: y67 :: y68 :: y69 :: y70 :: y71 :: y72 :: y73 :: y74 :: y75 :: y76 :: y77 :: y78 :: y79 :: y80 :: y81 :: y82 :: y83 :: y84 :: y85 :: y86 :: y87 :: y88 :: y89 :: y90 :: y91 :: y92 :: y93 :: y94 :: y95 :: y96 :: y97 :: y98 :: y99 :: y100 :: y101 :: y102 :: y103 :: y104 :: y105 :: y106 :: y107 :: y108 :: y109 :: y110 :: y111 :: y112 :: y113 :: y114 :: y115 :: y116 :: y117 :: y118 :: y119 :: y120 :: y121 :: y122 :: y123 :: y124 :: y125 :: y126 :: y127 :: y128 :: y129 :: y130 :: y131 :: y132 :: y133 :: y134 :: y135 :: y136 :: y137 :: y138 :: y139 :: y140 :: y141 :: y142 :: y143 :: y144 :: y145 :: y146 :: y147 :: y148 :: y149 :: y150 :: y151 :: y152 :: y153 :: y154 :: y155 :: y156 :: y157 :: y158 :: y159 :: y160 :: y161 :: y162 :: y163 :: y164 :: y165 :: y166 :: y167 :: y168 :: y169 :: y170 :: y171 :: y172 :: y173 :: y174 :: y175 :: y176 :: y177 :: y178 :: y179 :: y180 :: y181 :: y182 :: y183 :: y184 :: y185 :: y186 :: y187 :: y188 :: y189 :: y190 :: y191 :: y192 :: y193 :: y194 :: y195 :: y196 :: y197 :: y198 :: y199 :: y200 :: y201 :: y202 :: y203 :: y204 :: y205 :: y206 :: y207 :: y208 :: y209 :: y210 :: y211 :: y212 :: y213 :: y214 :: y215 :: y216 :: y217 :: y218 :: y219 :: y220 :: y221 :: y222 :: y223 :: y224 :: y225 :: y226 :: y227 :: y228 :: y229 :: y230 :: y231 :: y232 :: y233 :: y234 :: y235 :: y236 :: y237 :: y238 :: y239 :: y240 :: y241 :: y242 :: y243 :: y244 :: y245 :: y246 :: y247 :: y248 :: y249 :: y250 :: y251 :: y252 :: y253 :: y254 :: y255 :: y256 :: y257 :: y258 :: y259 :: y260 :: y261 :: y262 :: y263 :: y264 :: y265 :: y266 :: y267 :: y268 :: y269 :: y270 :: y271 :: y272 :: y273 :: y274 :: y275 :: y276 :: y277 :: y278 :: y279 :: y280 :: y281 :: y282 :: y283 :: y284 :: y285 :: y286 :: y287 :: y288 :: y289 :: y290 :: y291 :: y292 :: y293 :: y294 :: y295 :: y296 :: y297 :: y298 :: y299 :: y300 :: y301 :: y302 :: y303 :: y304 :: y305 :: []), defers := [] } w := by
  have HK := hide hK
  clear hK
  have HS0 := hide hS
  have HI := hide hit
  clear hS hit
  conv => arg 2; whnf
  go_loopw [13, 34] (fun u q wx => ∃ (j : Nat), j ≤ 3 ∧ q = .int .i64 (j : Int) ∧ MP N wx BB AA u bf af (ks ++ (List.range j).flatMap (k2 bf af a b i)) ∧ FQ N w wx) (fun u q _ => 3 - (intOf q).toNat)
  case atStart => exact ⟨0, by omega, rfl, by simpa using HS0.out, FQ.refl _ _⟩
  case round =>
    clear HS0
    obtain ⟨j, hj3, rfl, hst, hfq⟩ := hrel
    by_cases hj : j < 3
    · have hj' : (j : Int) < 3 := by omega
      have HFQ := hide hfq
      have HIw := hide (hfq.keep _ _ _ _ HI.out (by decide) (by decide))
      obtain ⟨fl, hmd, hkey⟩ := hst
      have HFL := hide (show fl.length ≤ 1500 by
        have := congrArg List.length hkey
        have := flat_le (k2 bf af a b i) 1 (fun j => ad_len _ _) j
        simp only [List.length_map, List.length_append] at *
        omega)
      have HN := hide (show ks ++ (List.range (j + 1)).flatMap (k2 bf af a b i) = fl.map An2.key ++ k2 bf af a b i j by rw [flat_succ, ← List.append_assoc, hkey])
      have HMD := hide hmd
      have X := hide (show k2 bf af a b i j = ad (!decide (i = j) && bf (a, b, i) && af (a, b, j)) (2, (a : Int), (b : Int), [itS i, itS j]) from rfl)
      clear hfq hmd hkey
      go_upto_region 87 with fail
      refine m_r87 (a := a) (b := b) (i := i) (j := j) (BB := BB) (AA := AA) ha hb hi hj (HMD.out.hb.at_ ha hb hi) (HMD.out.ha.at_ ha hb hj) ?_
      intro t271 t272 t273 t274 t275 t276 t277 t278 t279 t280 t281 t282 t283 t284 t285 t286 t287 t288 t289 t290
      generalize (!decide (i = j) && bf (a, b, i) && af (a, b, j)) = x at *
      cases x with
      | false =>
        have FF := hide (show ∀ u, MD N wr BB AA fl u bf af → MP N wr BB AA u bf af (ks ++ (List.range (j + 1)).flatMap (k2 bf af a b i)) from fun u hu => ⟨fl, hu, by rw [HN.out, X.out]; simp [ad]⟩)
        have GG := hide (FF.out _ HMD.out)
        clear FF HMD X HN
        go_wp2
        go_roundw
        case rel => exact ⟨j + 1, by omega, by go_num, GG.out, HFQ.out⟩
        case measure => simp [intOf]; omega
      | true =>
        go_upto_region 88 with fail
        refine m_r88 (a := a) (b := b) (i := i) (j := j) (IT := IT) HMD.out (by have := HFL.out; omega) hi hj HIw.out ?_
        intro t292 t293 t294 t295 t296 t297 t298 t299 t300 t301 t302 t303 t304 v' w3 q1 q2
        have GG := hide (show MP N w3 BB AA v' bf af (ks ++ (List.range (j + 1)).flatMap (k2 bf af a b i)) from ⟨_, q1, by rw [HN.out, X.out, List.map_append]; rfl⟩)
        have Q2 := hide (HFQ.out.trans q2)
        clear q1 q2 HMD X HN
        go_wp2
        go_roundw
        case rel => exact ⟨j + 1, by omega, by go_num, GG.out, Q2.out⟩
        case measure => simp [intOf]; omega
    · obtain rfl : j = 3 := by omega
      have G1 := hide hst
      have G2 := hide hfq
      clear hst hfq
      go_wp2
      exact HK.out _ _ _ _ _ _ _ _ _ _ _ _ _ _ _ _ _ _ _ _ _ _ _ _ _ _ _ _ _ _ _ _ _ _ _ _ _ _ _ _ _ G1.out G2.out

set_option maxHeartbeats 4000000 in
theorem m_loop13 {QQ : Exit → Act → World → Prop} {a b : Nat} {IT N BB AA : Nat} {v : Value} {bf af : T3 → Bool} {ks : List Key} {w : World} {y0 y1 y2 y3 y4 y5 y6 y7 y8 y9 y10 y11 y16 y17 y18 y19 y20 y21 y22 y23 y24 y25 y26 y27 y28 y29 y30 y34 y35 y36 y37 y38 y39 y40 y41 y42 y43 y44 y45 y46 y47 y48 y49 y50 y51 y52 y53 y54 y55 y56 y57 y58 y59 y60 y61 y62 y63 y64 y65 y66 y67 y68 y69 y70 y71 y72 y73 y74 y75 y76 y77 y78 y79 y80 y81 y82 y83 y84 y85 y86 y87 y88 y89 y90 y91 y92 y93 y94 y95 y96 y97 y98 y99 y100 y101 y102 y103 y104 y105 y106 y107 y108 y109 y110 y111 y112 y113 y114 y115 y116 y117 y118 y119 y120 y121 y122 y123 y124 y125 y126 y127 y128 y129 y130 y131 y132 y133 y134 y135 y136 y137 y138 y139 y140 y141 y142 y143 y144 y145 y146 y147 y148 y149 y150 y151 y152 y153 y154 y155 y156 y157 y158 y159 y160 y161 y162 y163 y164 y165 y166 y167 y168 y169 y170 y171 y172 y173 y174 y175 y176 y177 y178 y179 y180 y181 y182 y183 y184 y185 y186 y187 y188 y189 y190 y191 y192 y193 y194 y195 y196 y197 y198 y199 y200 y201 y202 y203 y204 y205 y206 y207 y208 y209 y210 y211 y212 y213 y214 y215 y216 y217 y218 y219 y220 y221 y222 y223 y224 y225 y226 y227 y228 y229 y230 y231 y232 y233 y234 y235 y236 y237 y238 y239 y240 y241 y242 y243 y244 y245 y246 y247 y248 y249 y250 y251 y252 y253 y254 y255 y256 y257 y258 y259 y260 y261 y262 y263 y264 y265 y266 y267 y268 y269 y270 y271 y272 y273 y274 y275 y276 y277 y278 y279 y280 y281 y282 y283 y284 y285 y286 y287 y288 y289 y290 y291 y292 y293 y294 y295 y296 y297 y298 y299 y300 y301 y302 y303 y304 y305 : Value}
    (ha : a ≤ 4) (hb : b ≤ 4) (hks : ks.length ≤ 900) (hit : w.heap[IT]? = some (.cells itsC 56 (0, 0))) (hS : MP N w BB AA v bf af ks)
    (hK : ∀ (t33 t34 t263 t264 t265 t266 t267 t268 t269 t270 t271 t272 t273 t274 t275 t276 t277 t278 t279 t280 t281 t282 t283 t284 t285 t286 t287 t288 t289 t290 t291 t292 t293 t294 t295 t296 t297 t298 t299 t300 t301 t302 t303 t304 : Value) (v' : Value) (wx : World), MP N wx BB AA v' bf af (ks ++ kP bf af a b) → FQ N w wx → QQ (.exit 24) { tmps := List.toArray (y0 :: y1 :: y2 :: y3 :: y4 :: y5 :: y6 :: y7 :: y8 :: y9 :: y10 :: y11 :: (Pp IT) :: (v') :: (Pp BB) :: (Pp AA) :: y16 :: y17 :: y18 :: y19 :: y20 :: y21 :: y22 :: y23 :: y24 :: y25 :: y26 :: y27 :: y28 :: y29 :: y30 :: (.int .i64 (a : Int)) :: (.int .i64 (b : Int)) :: (t33) :: (t34) :: y35 :: y36 :: y37 :: y38 :: y39 :: y40 :: y41 :: y42 :: y43 :: y44 :: y45 :: y46 :: y47 :: y48 :: y49 :: y50 :: y51 :: y52 :: y53 :: y54 :: y55 :: y56 :: y57 :: y58 :: y59 :: y60 :: y61 :: y62 :: y63 :: y64 :: y65 :: y66 :: y67 :: y68 :: y69 :: y70 :: y71 :: y72 :: y73 :: y74 :: y75 :: y76 :: y77 :: y78 :: y79 :: y80 :: y81 :: y82 :: y83 :: y84 :: y85 :: y86 :: y87 :: y88 :: y89 :: y90 :: y91 :: y92 :: y93 :: y94 :: y95 :: y96 :: y97 :: y98 :: y99 :: y100 :: y101 :: y102 :: y103 :: y104 :: y105 :: y106 :: y107 :: y108 :: y109 :: y110 :: y111 :: y112 :: y113 :: y114 :: y115 :: y116 :: y117 :: y118 :: y119 :: y120 :: y121 :: y122 :: y123 :: y124 :: y125 :: y126 :: y127 :: y128 :: y129 :: y130 :: y131 :: y132 :: y133 :: y134 :: y135 :: y136 :: y137 :: y138 :: y139 :: y140 :: y141 :: y142 :: y143 :: y144 :: y145 :: y146 :: y147 :: y148 :: y149 :: y150 :: y151 :: y152 :: y153 :: y154 :: y155 :: y156 :: y157 :: y158 :: y159 :: y160 :: y161 :: y162 :: y163 :: y164 :: y165 :: y166 :: y167 :: y168 :: y169 :: y170 :: y171 :: y172 :: y173 :: y174 :: y175 :: y176 :: y177 :: y178 :: y179 :: y180 :: y181 :: y182 :: y183 :: y184 :: y185 :: y186 :: y187 :: y188 :: y189 :: y190 :: y191 :: y192 :: y193 :: y194 :: y195 :: y196 :: y197 :: y198 :: y199 :: y200 :: y201 :: y202 :: y203 :: y204 :: y205 :: y206 :: y207 :: y208 :: y209 :: y210 :: y211 :: y212 :: y213 :: y214 :: y215 :: y216 :: y217 :: y218 :: y219 :: y220 :: y221 :: y222 :: y223 :: y224 :: y225 :: y226 :: y227 :: y228 :: y229 :: y230 :: y231 :: y232 :: y233 :: y234 :: y235 :: y236 :: y237 :: y238 :: y239 :: y240 :: y241 :: y242 :: y243 :: y244 :: y245 :: y246 :: y247 :: y248 :: y249 :: y250 :: y251 :: y252 :: y253 :: y254 :: y255 :: y256 :: y257 :: y258 :: y259 :: y260 :: y261 :: y262 :: (t263) :: (t264) :: (t265) :: (t266) :: (t267) :: (t268) :: (t269) :: (t270) :: (t271) :: (t272) :: (t273) :: (t274) :: (t275) :: (t276) :: (t277) :: (t278) :: (t279) :: (t280) :: (t281) :: (t282) :: (t283) :: (t284) :: (t285) :: (t286) :: (t287) :: (t288) :: (t289) :: (t290) :: (t291) :: (t292) :: (t293) :: (t294) :: (t295) :: (t296) :: (t297) :: (t298) :: (t299) :: (t300) :: (t301) :: (t302) :: (t303) :: (t304) :: y305 :: []), defers := [] } wx) :
    Code.wp Yba.prog (lpOf Yba.f16.body 12) QQ { tmps := List.toArray (y0 :: y1 :: y2 :: y3 :: y4 :: y5 :: y6 :: y7 :: y8 :: y9 :: y10 :: y11 :: (Pp IT) :: (v) :: (Pp BB) :: (Pp AA) :: y16 :: y17 :: y18 :: y19 :: y20 :: y21 :: y22 :: y23 :: y24 :: y25 :: y26 :: y27 :: y28 :: y29 :: y30 :: (.int .i64 (a : Int)) :: (.int .i64 (b : Int)) :: (.int .i64 0) :: y34 :: y35 :: y36 :: y37 :: y38 :: y39 :: y40 :: y41 :: y42 :: y43 :: y44 :: y45 :: y46 :: y47 :: y48 :: y49 :: y50 :: y51 :: y52 :: y53 :: y54 :: y55 :: y56 :: y57 :: y58 :: y59 :: y60 :: y61 :: y62 :: y63 :: y64 :: y65 :: y66 :: y67 :: y68 :: y69 :: y70 :: y71 :: y72 :: y73 :: y74 :: y75 :: y76 :: y77 :: y78 :: y79 :: y80 :: y81 :: y82 :: y83 :: y84 :: y85 :: y86 :: y87 :: y88 :: y89 :: y90 :: y91 :: y92 :: y93 :: y94 :: y95 :: y96 :: y97 :: y98 :: y99 :: y100 :: y101 :: y102 :: y103 :: y104 :: y105 :: y106 :: y107 :: y108 :: y109 :: y110 :: y111 :: y112 :: y113 :: y114 :: y115 :: y116 :: y117 :: y118 :: y119 :: y120 :: y121 :: y122 :: y123 :: y124 :: y125 :: y126 :: y127 :: y128 :: y129 :: y130 :: y131 :: y132 :: y133 :: y134 :: y135 :: y136 :: y137 :: y138 :: y139 :: y140 :: y141 :: y142 :: y143 :: y144 :: y145 :: y146 :: y147 :: y148 :: y149 :: y150 :: y151 :: y152 :: y153 :: y154 :: y155 :: y156 :: y157 :: y158 :: y159 :: y160 :: y161 :: y162 :: y163 :: y164 :: y165 :: y166 :: y167 :: y168 :: y169 :: y170 :: y171 :: y172 :: y173 :: y174 :: y175 :: y176 :: y177 :: y178 :: y179 :: y180 :: y181 :: y182 :: y183 :: y184 :: y185 :: y186 :: y187 :: y188 :: y189 :: y190 :: y191 :: y192 :: y193 :: y194 :: y195 :: y196 :: y197 :: y198 :: y199 :: y200 :: y201 :: y202 :: y203 :: y204 :: y205 :: y206 :: y207 :: y208 :: y209 :: y210 :: y211 :: y212 :: y213 :: y214 :: y215 :: y216 :: y217 :: y218 :: y219 :: y220 :: y221 :: y222 :: y223 :: y224 :: y225 :: y226 :: y227 :: y228 :: y229 :: y230 :: y231 :: y232 :: y233 :: y234 :: y235 :: y236 :: y237 :: y238 :: y239 :: y240 :: y241 :: y242 :: y243 :: y244 :: y245 :: y246 :: y247 :: y248 :: y249 :: y250 :: y251 :: y252 :: y253 :: y254 :: y255 :: y256 :: y257 :: y258 :: y259 :: y260 :: y261 :: y262 :: y263 :: y264 :: y265 :: y266 :: y267 :: y268 :: y269 :: y270 :: y271 :: y272 :: y273 :: y274 :: y275 :: y276 :: y277 :: y278 :: y279 :: y280 :: y281 :: y282 :: y283 :: y284 :: y285 :: y286 :: y287 :: y288 :: y289 :: y290 :: y291 :: y292 :: y293 :: y294 :: y295 :: y296 :: y297 :: y298 :: y299 :: y300 :: y301 :: y302 :: y303 :: y304 :: y305 :: []), defers := [] } w := by
  have HK := hide hK
  clear hK
  have HS0 := hide hS
  have HI := hide hit
  clear hS hit
  conv => arg 2; whnf
  go_loopw [13, 33] (fun u q wx => ∃ (x : Nat), x ≤ 3 ∧ q = .int .i64 (x : Int) ∧ MP N wx BB AA u bf af (ks ++ (List.range x).flatMap (kI bf af a b)) ∧ FQ N w wx) (fun u q _ => 3 - (intOf q).toNat)
  case atStart => exact ⟨0, by omega, rfl, by simpa using HS0.out, FQ.refl _ _⟩
  case round =>
    clear HS0
    obtain ⟨x, hx3, rfl, hst, hfq⟩ := hrel
    by_cases hx : x < 3
    · have hx' : (x : Int) < 3 := by omega
      have HFQ := hide hfq
      have HST := hide hst
      have HIw := hide (hfq.keep _ _ _ _ HI.out (by decide) (by decide))
      have HDL := hide (show (ks ++ (List.range x).flatMap (kI bf af a b)).length ≤ 1000 by
        have := flat_le (kI bf af a b) 3 (fun x => kI_len _ _ _ _ _) x
        rw [List.length_append]
        omega)
      have HN := hide (show ks ++ (List.range (x + 1)).flatMap (kI bf af a b) = ks ++ (List.range x).flatMap (kI bf af a b) ++ kI bf af a b x by rw [flat_succ, ← List.append_assoc])
      clear hst hfq
      go_upto_region 85 with fail
      refine m_loop14 (a := a) (b := b) (i := x) (IT := IT) ha hb hx HDL.out HIw.out HST.out ?_
      intro t34 t267 t268 t269 t270 t271 t272 t273 t274 t275 t276 t277 t278 t279 t280 t281 t282 t283 t284 t285 t286 t287 t288 t289 t290 t291 t292 t293 t294 t295 t296 t297 t298 t299 t300 t301 t302 t303 t304 v' wx q1 q2
      rw [← HN.out] at q1
      have Q1 := hide q1
      have Q2 := hide (HFQ.out.trans q2)
      clear q1 q2 HST HFQ
      go_wp2
      go_roundw
      case rel => exact ⟨x + 1, by omega, by go_num, Q1.out, Q2.out⟩
      case measure => simp [intOf]; omega
    · obtain rfl : x = 3 := by omega
      have G1 := hide hst
      have G2 := hide hfq
      clear hst hfq
      go_wp2
      exact HK.out _ _ _ _ _ _ _ _ _ _ _ _ _ _ _ _ _ _ _ _ _ _ _ _ _ _ _ _ _ _ _ _ _ _ _ _ _ _ _ _ _ _ _ _ _ _ G1.out G2.out

set_option maxHeartbeats 4000000 in
theorem m_loop12 {QQ : Exit → Act → World → Prop} {a : Nat} {IT N BB AA : Nat} {v : Value} {bf af : T3 → Bool} {ks : List Key} {w : World} {y0 y1 y2 y3 y4 y5 y6 y7 y8 y9 y10 y11 y16 y17 y18 y19 y20 y21 y22 y23 y24 y25 y26 y27 y28 y29 y30 y33 y34 y35 y36 y37 y38 y39 y40 y41 y42 y43 y44 y45 y46 y47 y48 y49 y50 y51 y52 y53 y54 y55 y56 y57 y58 y59 y60 y61 y62 y63 y64 y65 y66 y67 y68 y69 y70 y71 y72 y73 y74 y75 y76 y77 y78 y79 y80 y81 y82 y83 y84 y85 y86 y87 y88 y89 y90 y91 y92 y93 y94 y95 y96 y97 y98 y99 y100 y101 y102 y103 y104 y105 y106 y107 y108 y109 y110 y111 y112 y113 y114 y115 y116 y117 y118 y119 y120 y121 y122 y123 y124 y125 y126 y127 y128 y129 y130 y131 y132 y133 y134 y135 y136 y137 y138 y139 y140 y141 y142 y143 y144 y145 y146 y147 y148 y149 y150 y151 y152 y153 y154 y155 y156 y157 y158 y159 y160 y161 y162 y163 y164 y165 y166 y167 y168 y169 y170 y171 y172 y173 y174 y175 y176 y177 y178 y179 y180 y181 y182 y183 y184 y185 y186 y187 y188 y189 y190 y191 y192 y193 y194 y195 y196 y197 y198 y199 y200 y201 y202 y203 y204 y205 y206 y207 y208 y209 y210 y211 y212 y213 y214 y215 y216 y217 y218 y219 y220 y221 y222 y223 y224 y225 y226 y227 y228 y229 y230 y231 y232 y233 y234 y235 y236 y237 y238 y239 y240 y241 y242 y243 y244 y245 y246 y247 y248 y249 y250 y251 y252 y253 y254 y255 y256 y257 y258 y259 y260 y261 y262 y263 y264 y265 y266 y267 y268 y269 y270 y271 y272 y273 y274 y275 y276 y277 y278 y279 y280 y281 y282 y283 y284 y285 y286 y287 y288 y289 y290 y291 y292 y293 y294 y295 y296 y297 y298 y299 y300 y301 y302 y303 y304 y305 : Value}
    (ha : a ≤ 4) (hks : ks.length ≤ 800) (hit : w.heap[IT]? = some (.cells itsC 56 (0, 0))) (hS : MP N w BB AA v bf af ks)
    (hK : ∀ (t32 t33 t34 t259 t260 t261 t262 t263 t264 t265 t266 t267 t268 t269 t270 t271 t272 t273 t274 t275 t276 t277 t278 t279 t280 t281 t282 t283 t284 t285 t286 t287 t288 t289 t290 t291 t292 t293 t294 t295 t296 t297 t298 t299 t300 t301 t302 t303 t304 : Value) (v' : Value) (wx : World), MP N wx BB AA v' bf af (ks ++ kA bf af a) → FQ N w wx → QQ (.exit 22) { tmps := List.toArray (y0 :: y1 :: y2 :: y3 :: y4 :: y5 :: y6 :: y7 :: y8 :: y9 :: y10 :: y11 :: (Pp IT) :: (v') :: (Pp BB) :: (Pp AA) :: y16 :: y17 :: y18 :: y19 :: y20 :: y21 :: y22 :: y23 :: y24 :: y25 :: y26 :: y27 :: y28 :: y29 :: y30 :: (.int .i64 (a : Int)) :: (t32) :: (t33) :: (t34) :: y35 :: y36 :: y37 :: y38 :: y39 :: y40 :: y41 :: y42 :: y43 :: y44 :: y45 :: y46 :: y47 :: y48 :: y49 :: y50 :: y51 :: y52 :: y53 :: y54 :: y55 :: y56 :: y57 :: y58 :: y59 :: y60 :: y61 :: y62 :: y63 :: y64 :: y65 :: y66 :: y67 :: y68 :: y69 :: y70 :: y71 :: y72 :: y73 :: y74 :: y75 :: y76 :: y77 :: y78 :: y79 :: y80 :: y81 :: y82 :: y83 :: y84 :: y85 :: y86 :: y87 :: y88 :: y89 :: y90 :: y91 :: y92 :: y93 :: y94 :: y95 :: y96 :: y97 :: y98 :: y99 :: y100 :: y101 :: y102 :: y103 :: y104 :: y105 :: y106 :: y107 :: y108 :: y109 :: y110 :: y111 :: y112 :: y113 :: y114 :: y115 :: y116 :: y117 :: y118 :: y119 :: y120 :: y121 :: y122 :: y123 :: y124 :: y125 :: y126 :: y127 :: y128 :: y129 :: y130 :: y131 :: y132 :: y133 :: y134 :: y135 :: y136 :: y137 :: y138 :: y139 :: y140 :: y141 :: y142 :: y143 :: y144 :: y145 :: y146 :: y147 :: y148 :: y149 :: y150 :: y151 :: y152 :: y153 :: y154 :: y155 :: y156 :: y157 :: y158 :: y159 :: y160 :: y161 :: y162 :: y163 :: y164 :: y165 :: y166 :: y167 :: y168 :: y169 :: y170 :: y171 :: y172 :: y173 :: y174 :: y175 :: y176 :: y177 :: y178 :: y179 :: y180 :: y181 :: y182 :: y183 :: y184 :: y185 :: y186 :: y187 :: y188 :: y189 :: y190 :: y191 :: y192 :: y193 :: y194 :: y195 :: y196 :: y197 :: y198 :: y199 :: y200 :: y201 :: y202 :: y203 :: y204 :: y205 :: y206 :: y207 :: y208 :: y209 :: y210 :: y211 :: y212 :: y213 :: y214 :: y215 :: y216 :: y217 :: y218 :: y219 :: y220 :: y221 :: y222 :: y223 :: y224 :: y225 :: y226 :: y227 :: y228 :: y229 :: y230 :: y231 :: y232 :: y233 :: y234 :: y235 :: y236 :: y237 :: y238 :: y239 :: y240 :: y241 :: y242 :: y243 :: y244 :: y245 :: y246 :: y247 :: y248 :: y249 :: y250 :: y251 :: y252 :: y253 :: y254 :: y255 :: y256 :: y257 :: y258 :: (t259) :: (t260) :: (t261) :: (t262) :: (t263) :: (t264) :: (t265) :: (t266) :: (t267) :: (t268) :: (t269) :: (t270) :: (t271) :: (t272) :: (t273) :: (t274) :: (t275) :: (t276) :: (t277) :: (t278) :: (t279) :: (t280) :: (t281) :: (t282) :: (t283) :: (t284) :: (t285) :: (t286) :: (t287) :: (t288) :: (t289) :: (t290) :: (t291) :: (t292) :: (t293) :: (t294) :: (t295) :: (t296) :: (t297) :: (t298) :: (t299) :: (t300) :: (t301) :: (t302) :: (t303) :: (t304) :: y305 :: []), defers := [] } wx) :
    Code.wp Yba.prog (lpOf Yba.f16.body 11) QQ { tmps := List.toArray (y0 :: y1 :: y2 :: y3 :: y4 :: y5 :: y6 :: y7 :: y8 :: y9 :: y10 :: y11 :: (Pp IT) :: (v) :: (Pp BB) :: (Pp AA) :: y16 :: y17 :: y18 :: y19 :: y20 :: y21 :: y22 :: y23 :: y24 :: y25 :: y26 :: y27 :: y28 :: y29 :: y30 :: (.int .i64 (a : Int)) :: (.int .i64 1) :: y33 :: y34 :: y35 :: y36 :: y37 :: y38 :: y39 :: y40 :: y41 :: y42 :: y43 :: y44 :: y45 :: y46 :: y47 :: y48 :: y49 :: y50 :: y51 :: y52 :: y53 :: y54 :: y55 :: y56 :: y57 :: y58 :: y59 :: y60 :: y61 :: y62 :: y63 :: y64 :: y65 :: y66 :: y67 :: y68 :: y69 :: y70 :: y71 :: y72 :: y73 :: y74 :: y75 :: y76 :: y77 :: y78 :: y79 :: y80 :: y81 :: y82 :: y83 :: y84 :: y85 :: y86 :: y87 :: y88 :: y89 :: y90 :: y91 :: y92 :: y93 :: y94 :: y95 :: y96 :: y97 :: y98 :: y99 :: y100 :: y101 :: y102 :: y103 :: y104 :: y105 :: y106 :: y107 :: y108 :: y109 :: y110 :: y111 :: y112 :: y113 :: y114 :: y115 :: y116 :: y117 :: y118 :: y119 :: y120 :: y121 :: y122 :: y123 :: y124 :: y125 :: y126 :: y127 :: y128 :: y129 :: y130 :: y131 :: y132 :: y133 :: y134 :: y135 :: y136 :: y137 :: y138 :: y139 :: y140 :: y141 :: y142 :: y143 :: y144 :: y145 :: y146 :: y147 :: y148 :: y149 :: y150 :: y151 :: y152 :: y153 :: y154 :: y155 :: y156 :: y157 :: y158 :: y159 :: y160 :: y161 :: y162 :: y163 :: y164 :: y165 :: y166 :: y167 :: y168 :: y169 :: y170 :: y171 :: y172 :: y173 :: y174 :: y175 :: y176 :: y177 :: y178 :: y179 :: y180 :: y181 :: y182 :: y183 :: y184 :: y185 :: y186 :: y187 :: y188 :: y189 :: y190 :: y191 :: y192 :: y193 :: y194 :: y195 :: y196 :: y197 :: y198 :: y199 :: y200 :: y201 :: y202 :: y203 :: y204 :: y205 :: y206 :: y207 :: y208 :: y209 :: y210 :: y211 :: y212 :: y213 :: y214 :: y215 :: y216 :: y217 :: y218 :: y219 :: y220 :: y221 :: y222 :: y223 :: y224 :: y225 :: y226 :: y227 :: y228 :: y229 :: y230 :: y231 :: y232 :: y233 :: y234 :: y235 :: y236 :: y237 :: y238 :: y239 :: y240 :: y241 :: y242 :: y243 :: y244 :: y245 :: y246 :: y247 :: y248 :: y249 :: y250 :: y251 :: y252 :: y253 :: y254 :: y255 :: y256 :: y257 :: y258 :: y259 :: y260 :: y261 :: y262 :: y263 :: y264 :: y265 :: y266 :: y267 :: y268 :: y269 :: y270 :: y271 :: y272 :: y273 :: y274 :: y275 :: y276 :: y277 :: y278 :: y279 :: y280 :: y281 :: y282 :: y283 :: y284 :: y285 :: y286 :: y287 :: y288 :: y289 :: y290 :: y291 :: y292 :: y293 :: y294 :: y295 :: y296 :: y297 :: y298 :: y299 :: y300 :: y301 :: y302 :: y303 :: y304 :: y305 :: []), defers := [] } w := by
  have HK := hide hK
  clear hK
  have HS0 := hide hS
  have HI := hide hit
  clear hS hit
  conv => arg 2; whnf
  go_loopw [13, 32] (fun u q wx => ∃ (x : Nat), 1 ≤ x ∧ x ≤ 5 ∧ q = .int .i64 (x : Int) ∧ MP N wx BB AA u bf af (ks ++ (List.range (x - 1)).flatMap (fun y => kP bf af a (y + 1))) ∧ FQ N w wx) (fun u q _ => 5 - (intOf q).toNat)
  case atStart => exact ⟨1, by omega, by omega, rfl, by simpa using HS0.out, FQ.refl _ _⟩
  case round =>
    clear HS0
    obtain ⟨x, hx1, hx5, rfl, hst, hfq⟩ := hrel
    by_cases hx : x ≤ 4
    · have hx' : (x : Int) ≤ 4 := by omega
      have HFQ := hide hfq
      have HST := hide hst
      have HIw := hide (hfq.keep _ _ _ _ HI.out (by decide) (by decide))
      have HDL := hide (show (ks ++ (List.range (x - 1)).flatMap (fun y => kP bf af a (y + 1))).length ≤ 900 by
        have := flat_le (fun y => kP bf af a (y + 1)) 9 (fun x => kP_len _ _ _ _) (x - 1)
        rw [List.length_append]
        omega)
      have HN := hide (show ks ++ (List.range (x + 1 - 1)).flatMap (fun y => kP bf af a (y + 1)) = ks ++ (List.range (x - 1)).flatMap (fun y => kP bf af a (y + 1)) ++ kP bf af a x by
        obtain ⟨x', rfl⟩ : ∃ x', x = x' + 1 := ⟨x - 1, by omega⟩
        show ks ++ (List.range (x' + 1)).flatMap _ = _
        rw [flat_succ, ← List.append_assoc]
        rfl)
      clear hst hfq
      go_upto_region 82 with fail
      refine m_loop13 (a := a) (b := x) (IT := IT) ha hx HDL.out HIw.out HST.out ?_
      intro t33 t34 t263 t264 t265 t266 t267 t268 t269 t270 t271 t272 t273 t274 t275 t276 t277 t278 t279 t280 t281 t282 t283 t284 t285 t286 t287 t288 t289 t290 t291 t292 t293 t294 t295 t296 t297 t298 t299 t300 t301 t302 t303 t304 v' wx q1 q2
      rw [← HN.out] at q1
      have Q1 := hide q1
      have Q2 := hide (HFQ.out.trans q2)
      clear q1 q2 HST HFQ
      go_wp2
      go_roundw
      case rel => exact ⟨x + 1, by omega, by omega, by go_num, Q1.out, Q2.out⟩
      case measure => simp [intOf]; omega
    · obtain rfl : x = 5 := by omega
      have G1 := hide hst
      have G2 := hide hfq
      clear hst hfq
      go_wp2
      exact HK.out _ _ _ _ _ _ _ _ _ _ _ _ _ _ _ _ _ _ _ _ _ _ _ _ _ _ _ _ _ _ _ _ _ _ _ _ _ _ _ _ _ _ _ _ _ _ _ _ _ _ _ G1.out G2.out

set_option maxHeartbeats 4000000 in
theorem m_loop11 {QQ : Exit → Act → World → Prop} {IT N BB AA : Nat} {v : Value} {bf af : T3 → Bool} {ks : List Key} {w : World} {y0 y1 y2 y3 y4 y5 y6 y7 y8 y9 y10 y11 y16 y17 y18 y19 y20 y21 y22 y23 y24 y25 y26 y27 y28 y29 y30 y32 y33 y34 y35 y36 y37 y38 y39 y40 y41 y42 y43 y44 y45 y46 y47 y48 y49 y50 y51 y52 y53 y54 y55 y56 y57 y58 y59 y60 y61 y62 y63 y64 y65 y66 y67 y68 y69 y70 y71 y72 y73 y74 y75 y76 y77 y78 y79 y80 y81 y82 y83 y84 y85 y86 y87 y88 y89 y90 y91 y92 y93 y94 y95 y96 y97 y98 y99 y100 y101 y102 y103 y104 y105 y106 y107 y108 y109 y110 y111 y112 y113 y114 y115 y116 y117 y118 y119 y120 y121 y122 y123 y124 y125 y126 y127 y128 y129 y130 y131 y132 y133 y134 y135 y136 y137 y138 y139 y140 y141 y142 y143 y144 y145 y146 y147 y148 y149 y150 y151 y152 y153 y154 y155 y156 y157 y158 y159 y160 y161 y162 y163 y164 y165 y166 y167 y168 y169 y170 y171 y172 y173 y174 y175 y176 y177 y178 y179 y180 y181 y182 y183 y184 y185 y186 y187 y188 y189 y190 y191 y192 y193 y194 y195 y196 y197 y198 y199 y200 y201 y202 y203 y204 y205 y206 y207 y208 y209 y210 y211 y212 y213 y214 y215 y216 y217 y218 y219 y220 y221 y222 y223 y224 y225 y226 y227 y228 y229 y230 y231 y232 y233 y234 y235 y236 y237 y238 y239 y240 y241 y242 y243 y244 y245 y246 y247 y248 y249 y250 y251 y252 y253 y254 y255 y256 y257 y258 y259 y260 y261 y262 y263 y264 y265 y266 y267 y268 y269 y270 y271 y272 y273 y274 y275 y276 y277 y278 y279 y280 y281 y282 y283 y284 y285 y286 y287 y288 y289 y290 y291 y292 y293 y294 y295 y296 y297 y298 y299 y300 y301 y302 y303 y304 y305 : Value}
    (hks : ks.length ≤ 600) (hit : w.heap[IT]? = some (.cells itsC 56 (0, 0))) (hS : MP N w BB AA v bf af ks)
    (hK : ∀ (t31 t32 t33 t34 t255 t256 t257 t258 t259 t260 t261 t262 t263 t264 t265 t266 t267 t268 t269 t270 t271 t272 t273 t274 t275 t276 t277 t278 t279 t280 t281 t282 t283 t284 t285 t286 t287 t288 t289 t290 t291 t292 t293 t294 t295 t296 t297 t298 t299 t300 t301 t302 t303 t304 : Value) (v' : Value) (wx : World), MP N wx BB AA v' bf af (ks ++ kW bf af) → FQ N w wx → QQ (.exit 20) { tmps := List.toArray (y0 :: y1 :: y2 :: y3 :: y4 :: y5 :: y6 :: y7 :: y8 :: y9 :: y10 :: y11 :: (Pp IT) :: (v') :: (Pp BB) :: (Pp AA) :: y16 :: y17 :: y18 :: y19 :: y20 :: y21 :: y22 :: y23 :: y24 :: y25 :: y26 :: y27 :: y28 :: y29 :: y30 :: (t31) :: (t32) :: (t33) :: (t34) :: y35 :: y36 :: y37 :: y38 :: y39 :: y40 :: y41 :: y42 :: y43 :: y44 :: y45 :: y46 :: y47 :: y48 :: y49 :: y50 :: y51 :: y52 :: y53 :: y54 :: y55 :: y56 :: y57 :: y58 :: y59 :: y60 :: y61 :: y62 :: y63 :: y64 :: y65 :: y66 :: y67 :: y68 :: y69 :: y70 :: y71 :: y72 :: y73 :: y74 :: y75 :: y76 :: y77 :: y78 :: y79 :: y80 :: y81 :: y82 :: y83 :: y84 :: y85 :: y86 :: y87 :: y88 :: y89 :: y90 :: y91 :: y92 :: y93 :: y94 :: y95 :: y96 :: y97 :: y98 :: y99 :: y100 :: y101 :: y102 :: y103 :: y104 :: y105 :: y106 :: y107 :: y108 :: y109 :: y110 :: y111 :: y112 :: y113 :: y114 :: y115 :: y116 :: y117 :: y118 :: y119 :: y120 :: y121 :: y122 :: y123 :: y124 :: y125 :: y126 :: y127 :: y128 :: y129 :: y130 :: y131 :: y132 :: y133 :: y134 :: y135 :: y136 :: y137 :: y138 :: y139 :: y140 :: y141 :: y142 :: y143 :: y144 :: y145 :: y146 :: y147 :: y148 :: y149 :: y150 :: y151 :: y152 :: y153 :: y154 :: y155 :: y156 :: y157 :: y158 :: y159 :: y160 :: y161 :: y162 :: y163 :: y164 :: y165 :: y166 :: y167 :: y168 :: y169 :: y170 :: y171 :: y172 :: y173 :: y174 :: y175 :: y176 :: y177 :: y178 :: y179 :: y180 :: y181 :: y182 :: y183 :: y184 :: y185 :: y186 :: y187 :: y188 :: y189 :: y190 :: y191 :: y192 :: y193 :: y194 :: y195 :: y196 :: y197 :: y198 :: y199 :: y200 :: y201 :: y202 :: y203 :: y204 :: y205 :: y206 :: y207 :: y208 :: y209 :: y210 :: y211 :: y212 :: y213 :: y214 :: y215 :: y216 :: y217 :: y218 :: y219 :: y220 :: y221 :: y222 :: y223 :: y224 :: y225 :: y226 :: y227 :: y228 :: y229 :: y230 :: y231 :: y232 :: y233 :: y234 :: y235 :: y236 :: y237 :: y238 :: y239 :: y240 :: y241 :: y242 :: y243 :: y244 :: y245 :: y246 :: y247 :: y248 :: y249 :: y250 :: y251 :: y252 :: y253 :: y254 :: (t255) :: (t256) :: (t257) :: (t258) :: (t259) :: (t260) :: (t261) :: (t262) :: (t263) :: (t264) :: (t265) :: (t266) :: (t267) :: (t268) :: (t269) :: (t270) :: (t271) :: (t272) :: (t273) :: (t274) :: (t275) :: (t276) :: (t277) :: (t278) :: (t279) :: (t280) :: (t281) :: (t282) :: (t283) :: (t284) :: (t285) :: (t286) :: (t287) :: (t288) :: (t289) :: (t290) :: (t291) :: (t292) :: (t293) :: (t294) :: (t295) :: (t296) :: (t297) :: (t298) :: (t299) :: (t300) :: (t301) :: (t302) :: (t303) :: (t304) :: y305 :: []), defers := [] } wx) :
    Code.wp Yba.prog (lpOf Yba.f16.body 10) QQ { tmps := List.toArray (y0 :: y1 :: y2 :: y3 :: y4 :: y5 :: y6 :: y7 :: y8 :: y9 :: y10 :: y11 :: (Pp IT) :: (v) :: (Pp BB) :: (Pp AA) :: y16 :: y17 :: y18 :: y19 :: y20 :: y21 :: y22 :: y23 :: y24 :: y25 :: y26 :: y27 :: y28 :: y29 :: y30 :: (.int .i64 1) :: y32 :: y33 :: y34 :: y35 :: y36 :: y37 :: y38 :: y39 :: y40 :: y41 :: y42 :: y43 :: y44 :: y45 :: y46 :: y47 :: y48 :: y49 :: y50 :: y51 :: y52 :: y53 :: y54 :: y55 :: y56 :: y57 :: y58 :: y59 :: y60 :: y61 :: y62 :: y63 :: y64 :: y65 :: y66 :: y67 :: y68 :: y69 :: y70 :: y71 :: y72 :: y73 :: y74 :: y75 :: y76 :: y77 :: y78 :: y79 :: y80 :: y81 :: y82 :: y83 :: y84 :: y85 :: y86 :: y87 :: y88 :: y89 :: y90 :: y91 :: y92 :: y93 :: y94 :: y95 :: y96 :: y97 :: y98 :: y99 :: y100 :: y101 :: y102 :: y103 :: y104 :: y105 :: y106 :: y107 :: y108 :: y109 :: y110 :: y111 :: y112 :: y113 :: y114 :: y115 :: y116 :: y117 :: y118 :: y119 :: y120 :: y121 :: y122 :: y123 :: y124 :: y125 :: y126 :: y127 :: y128 :: y129 :: y130 :: y131 :: y132 :: y133 :: y134 :: y135 :: y136 :: y137 :: y138 :: y139 :: y140 :: y141 :: y142 :: y143 :: y144 :: y145 :: y146 :: y147 :: y148 :: y149 :: y150 :: y151 :: y152 :: y153 :: y154 :: y155 :: y156 :: y157 :: y158 :: y159 :: y160 :: y161 :: y162 :: y163 :: y164 :: y165 :: y166 :: y167 :: y168 :: y169 :: y170 :: y171 :: y172 :: y173 :: y174 :: y175 :: y176 :: y177 :: y178 :: y179 :: y180 :: y181 :: y182 :: y183 :: y184 :: y185 :: y186 :: y187 :: y188 :: y189 :: y190 :: y191 :: y192 :: y193 :: y194 :: y195 :: y196 :: y197 :: y198 :: y199 :: y200 :: y201 :: y202 :: y203 :: y204 :: y205 :: y206 :: y207 :: y208 :: y209 :: y210 :: y211 :: y212 :: y213 :: y214 :: y215 :: y216 :: y217 :: y218 :: y219 :: y220 :: y221 :: y222 :: y223 :: y224 :: y225 :: y226 :: y227 :: y228 :: y229 :: y230 :: y231 :: y232 :: y233 :: y234 :: y235 :: y236 :: y237 :: y238 :: y239 :: y240 :: y241 :: y242 :: y243 :: y244 :: y245 :: y246 :: y247 :: y248 :: y249 :: y250 :: y251 :: y252 :: y253 :: y254 :: y255 :: y256 :: y257 :: y258 :: y259 :: y260 :: y261 :: y262 :: y263 :: y264 :: y265 :: y266 :: y267 :: y268 :: y269 :: y270 :: y271 :: y272 :: y273 :: y274 :: y275 :: y276 :: y277 :: y278 :: y279 :: y280 :: y281 :: y282 :: y283 :: y284 :: y285 :: y286 :: y287 :: y288 :: y289 :: y290 :: y291 :: y292 :: y293 :: y294 :: y295 :: y296 :: y297 :: y298 :: y299 :: y300 :: y301 :: y302 :: y303 :: y304 :: y305 :: []), defers := [] } w := by
  have HK := hide hK
  clear hK
  have HS0 := hide hS
  have HI := hide hit
  clear hS hit
  conv => arg 2; whnf
  go_loopw [13, 31] (fun u q wx => ∃ (x : Nat), 1 ≤ x ∧ x ≤ 5 ∧ q = .int .i64 (x : Int) ∧ MP N wx BB AA u bf af (ks ++ (List.range (x - 1)).flatMap (fun y => kA bf af (y + 1))) ∧ FQ N w wx) (fun u q _ => 5 - (intOf q).toNat)
  case atStart => exact ⟨1, by omega, by omega, rfl, by simpa using HS0.out, FQ.refl _ _⟩
  case round =>
    clear HS0
    obtain ⟨x, hx1, hx5, rfl, hst, hfq⟩ := hrel
    by_cases hx : x ≤ 4
    · have hx' : (x : Int) ≤ 4 := by omega
      have HFQ := hide hfq
      have HST := hide hst
      have HIw := hide (hfq.keep _ _ _ _ HI.out (by decide) (by decide))
      have HDL := hide (show (ks ++ (List.range (x - 1)).flatMap (fun y => kA bf af (y + 1))).length ≤ 800 by
        have := flat_le (fun y => kA bf af (y + 1)) 36 (fun x => kA_len _ _ _) (x - 1)
        rw [List.length_append]
        omega)
      have HN := hide (show ks ++ (List.range (x + 1 - 1)).flatMap (fun y => kA bf af (y + 1)) = ks ++ (List.range (x - 1)).flatMap (fun y => kA bf af (y + 1)) ++ kA bf af x by
        obtain ⟨x', rfl⟩ : ∃ x', x = x' + 1 := ⟨x - 1, by omega⟩
        show ks ++ (List.range (x' + 1)).flatMap _ = _
        rw [flat_succ, ← List.append_assoc]
        rfl)
      clear hst hfq
      go_upto_region 79 with fail
      refine m_loop12 (a := x) (IT := IT) hx HDL.out HIw.out HST.out ?_
      intro t32 t33 t34 t259 t260 t261 t262 t263 t264 t265 t266 t267 t268 t269 t270 t271 t272 t273 t274 t275 t276 t277 t278 t279 t280 t281 t282 t283 t284 t285 t286 t287 t288 t289 t290 t291 t292 t293 t294 t295 t296 t297 t298 t299 t300 t301 t302 t303 t304 v' wx q1 q2
      rw [← HN.out] at q1
      have Q1 := hide q1
      have Q2 := hide (HFQ.out.trans q2)
      clear q1 q2 HST HFQ
      go_wp2
      go_roundw
      case rel => exact ⟨x + 1, by omega, by omega, by go_num, Q1.out, Q2.out⟩
      case measure => simp [intOf]; omega
    · obtain rfl : x = 5 := by omega
      have G1 := hide hst
      have G2 := hide hfq
      clear hst hfq
      go_wp2
      exact HK.out _ _ _ _ _ _ _ _ _ _ _ _ _ _ _ _ _ _ _ _ _ _ _ _ _ _ _ _ _ _ _ _ _ _ _ _ _ _ _ _ _ _ _ _ _ _ _ _ _ _ _ _ _ _ _ _ G1.out G2.out

end Go.Proofs.Ybulkaggi.BM

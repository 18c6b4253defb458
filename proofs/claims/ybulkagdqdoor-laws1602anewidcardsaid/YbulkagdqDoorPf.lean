import Derived.Test.YbulkagdqDoorPe
import Derived.BigQuiet
namespace Go.Proofs.YbulkagdqDoor
open Go.RowKit
set_option linter.unusedVariables false
set_option maxRecDepth 100000

theorem memh5 {cb go gc bb g2 rl rc : Nat} (D : List Nat) (h : ∀ x ∈ D, x = cb ∨ x = go ∨ x = gc ∨ x = bb ∨ x = g2) : ∀ x ∈ D, x = cb ∨ x = go ∨ x = gc ∨ x = bb ∨ (Value.slice (some ⟨g2, 0, none⟩) rl rc).ownBlock = some x := fun x hx => by
  rcases h x hx with e | e | e | e | e
  · exact .inl e
  · exact .inr (.inl e)
  · exact .inr (.inr (.inl e))
  · exact .inr (.inr (.inr (.inl e)))
  · exact .inr (.inr (.inr (.inr (by simp [Value.ownBlock, e]))))

set_option maxHeartbeats 12000000 in
theorem tailHit0 {KK : Act → World → Prop} {w X : World} {kb ab mb cb go gc pb tb bb nb ccb xb rb rrb key : Nat} {aClk xclk ts tn : Int} {Kn p Rn : Nat} {ping : Bool} {k rl : Nat} {g : Nat} {g2 : Nat} {vc rc base base2 : Nat} {es er : List Ent} {l lr : List Rec} {ia ja : Option Addr} {ic jc : Nat} {y0 y1 y2 y3 y4 y5 y8 y9 y10 y11 y12 y14 y15 y16 y17 y18 y20 y21 y22 y29 y30 y32 y33 y39 y41 y46 y47 y48 y49 y50 y51 y52 y53 y54 y55 y56 y57 y58 y59 y60 y61 y62 y63 y64 y65 y66 y67 y68 y69 y70 y71 y72 y73 y74 y75 y76 y77 y78 y79 y80 y81 y82 y83 y84 y85 y86 y87 y88 y89 y90 y91 y92 y93 y94 y95 y96 y97 y98 y99 y100 y101 y102 y103 y104 y105 y106 y107 y108 y109 y110 y111 y112 y113 y114 y115 y116 y117 y118 y119 y120 y121 y122 y123 y124 y125 y126 y127 y128 y129 y130 y131 y132 y133 y134 y135 y136 y137 y138 y139 y140 y141 y142 y143 y144 y145 y146 y147 y148 y149 y150 y151 y152 y153 y154 y155 y156 y157 y158 y159 y160 y161 y162 y163 y164 y165 y166 y167 y168 y169 y170 y171 y172 y173 y174 y175 y176 y177 y178 y179 y180 y181 y182 y183 y184 y185 y186 y187 y188 y189 y190 y191 y192 y193 y194 y195 y196 y197 y198 y199 y200 y201 y202 y203 y204 y205 y206 y207 y208 y209 y210 y211 y212 y213 y214 y215 y216 y217 y218 y219 y220 y221 y222 y223 y224 y225 y226 y227 y228 y229 y230 y231 y232 y233 y234 y235 y236 y237 y238 y239 y240 y241 y242 y243 y244 y245 y246 y247 y248 y249 y250 y251 y252 y253 y254 y255 y256 y257 y258 y259 y260 y261 y262 y263 y264 y265 y266 y267 y268 y269 y270 y271 y272 y273 y274 y275 y276 y277 y278 y279 y280 y281 y282 y283 y284 y285 y286 y287 y288 y289 y290 y291 y292 y293 y294 y295 y296 y297 y298 y299 y300 y301 y302 y303 y304 y305 y306 y307 y308 y309 y310 y311 y312 y313 y314 y315 y316 y317 y318 y319 y320 y321 y322 y323 y324 y325 y326 y327 y328 y329 y330 y331 y332 y333 y334 y335 y336 y337 y338 y339 y340 y341 y342 y343 y344 y345 y346 y347 y348 y349 y350 y351 y352 y353 y354 y355 y356 y357 y358 y359 y360 y361 y362 y363 y364 y365 y366 y367 y368 y369 y370 y371 y372 y373 y374 y375 y376 y377 y378 y379 y380 y381 y382 y383 y384 y385 y386 y387 y388 y389 y390 y391 y392 y393 y394 y395 y396 y397 y398 y399 y400 y401 y402 y403 y404 y405 y406 y407 y408 y409 y410 y411 y412 y413 y414 y415 y416 y417 y418 y419 y420 y421 y422 y423 y424 y425 y426 y427 y428 y429 y430 y431 y432 y433 y434 y435 y436 y437 y438 y439 y440 y441 y442 y443 y444 y445 y446 y447 y448 y449 y450 y451 y452 y453 y454 y455 y456 y457 y458 y459 y460 y461 y462 y463 y464 y465 y466 y467 y468 y469 y470 y471 y472 y473 y474 y475 y476 y477 y478 y479 y480 y481 y482 y483 y484 : Value} {gr b0 j : Nat} {fr : Nat → Nat}
    (hNS : NS w X kb ab mb cb go gc pb tb bb nb ccb xb rb rrb key aClk 0 xclk ts tn Kn p Rn ping k rl (some ⟨g, 0, none⟩) (some ⟨g2, 0, none⟩) vc rc base base2 es er l lr) (hkey : key < 256) (hK8 : Kn ≤ 8) (hk8 : k ≤ 8) (hR3 : Rn ≤ 3) (hp4 : p ≤ 4) (htn : 0 ≤ tn ∧ tn < 1000000000) (hok1 : ∀ r ∈ l, 0 ≤ r.n ∧ r.n < 1000000000) (hok2 : ∀ r ∈ lr, 0 ≤ r.n ∧ r.n < 1000000000) (hkK : k = Kn) (hk1 : 1 ≤ k) (hR1 : 1 ≤ Rn) (hrlR : rl ≤ Rn) (hlr : lr = mkO 100 fr rl) (hF : IdsF X ja rl b0 gr fr) (hek : ∀ e ∈ er, e.key < 256) (hj : j < er.length) (hfj : fr j = key)
    (hKK : ∀ a w1, Code.wp Ybad.prog (afOf Ybad.f4.body 35) (bodyPost Ybad.prog Ybad.f4 (fun e w' => e = Ending.returned (.bool true) ∧ Below w.heap.size w w')) a w1 → KK a w1) :
    Code.wp Ybad.prog (rgOf Ybad.f4.body 35) (Exit.then KK (bodyPost Ybad.prog Ybad.f4 (fun e w' => e = Ending.returned (.bool true) ∧ Below w.heap.size w w'))) { tmps := List.toArray (y0 :: y1 :: y2 :: y3 :: y4 :: y5 :: (.bool ping) :: (.int .u64 xclk) :: y8 :: y9 :: y10 :: y11 :: y12 :: (.pointer (some ⟨kb, 0, none⟩)) :: y14 :: y15 :: y16 :: y17 :: y18 :: (.pointer (some ⟨ab, 0, none⟩)) :: y20 :: y21 :: y22 :: (.int .i64 (Kn : Int)) :: (.int .i64 (Rn : Int)) :: (.int .i64 (p : Int)) :: (.slice ia k ic) :: (.slice ja rl jc) :: (.slice (some ⟨rb, 0, none⟩) k k) :: y29 :: y30 :: (.slice (some ⟨rrb, 0, none⟩) rl rl) :: y32 :: y33 :: (.pointer (some ⟨bb, 0, none⟩)) :: (.pointer (some ⟨mb, 0, none⟩)) :: (.pointer (some ⟨cb, 0, none⟩)) :: (.pointer (some ⟨go, 0, none⟩)) :: (.pointer (some ⟨gc, 0, none⟩)) :: y39 :: (.pointer (some ⟨pb, 0, none⟩)) :: y41 :: (.pointer (some ⟨tb, 0, none⟩)) :: (.pointer (some ⟨nb, 0, none⟩)) :: (.pointer (some ⟨ccb, 0, none⟩)) :: (.slice (some ⟨xb, 0, none⟩) 1 1) :: y46 :: y47 :: y48 :: y49 :: y50 :: y51 :: y52 :: y53 :: y54 :: y55 :: y56 :: y57 :: y58 :: y59 :: y60 :: y61 :: y62 :: y63 :: y64 :: y65 :: y66 :: y67 :: y68 :: y69 :: y70 :: y71 :: y72 :: y73 :: y74 :: y75 :: y76 :: y77 :: y78 :: y79 :: y80 :: y81 :: y82 :: y83 :: y84 :: y85 :: y86 :: y87 :: y88 :: y89 :: y90 :: y91 :: y92 :: y93 :: y94 :: y95 :: y96 :: y97 :: y98 :: y99 :: y100 :: y101 :: y102 :: y103 :: y104 :: y105 :: y106 :: y107 :: y108 :: y109 :: y110 :: y111 :: y112 :: y113 :: y114 :: y115 :: y116 :: y117 :: y118 :: y119 :: y120 :: y121 :: y122 :: y123 :: y124 :: y125 :: y126 :: y127 :: y128 :: y129 :: y130 :: y131 :: y132 :: y133 :: y134 :: y135 :: y136 :: y137 :: y138 :: y139 :: y140 :: y141 :: y142 :: y143 :: y144 :: y145 :: y146 :: y147 :: y148 :: y149 :: y150 :: y151 :: y152 :: y153 :: y154 :: y155 :: y156 :: y157 :: y158 :: y159 :: y160 :: y161 :: y162 :: y163 :: y164 :: y165 :: y166 :: y167 :: y168 :: y169 :: y170 :: y171 :: y172 :: y173 :: y174 :: y175 :: y176 :: y177 :: y178 :: y179 :: y180 :: y181 :: y182 :: y183 :: y184 :: y185 :: y186 :: y187 :: y188 :: y189 :: y190 :: y191 :: y192 :: y193 :: y194 :: y195 :: y196 :: y197 :: y198 :: y199 :: y200 :: y201 :: y202 :: y203 :: y204 :: y205 :: y206 :: y207 :: y208 :: y209 :: y210 :: y211 :: y212 :: y213 :: y214 :: y215 :: y216 :: y217 :: y218 :: y219 :: y220 :: y221 :: y222 :: y223 :: y224 :: y225 :: y226 :: y227 :: y228 :: y229 :: y230 :: y231 :: y232 :: y233 :: y234 :: y235 :: y236 :: y237 :: y238 :: y239 :: y240 :: y241 :: y242 :: y243 :: y244 :: y245 :: y246 :: y247 :: y248 :: y249 :: y250 :: y251 :: y252 :: y253 :: y254 :: y255 :: y256 :: y257 :: y258 :: y259 :: y260 :: y261 :: y262 :: y263 :: y264 :: y265 :: y266 :: y267 :: y268 :: y269 :: y270 :: y271 :: y272 :: y273 :: y274 :: y275 :: y276 :: y277 :: y278 :: y279 :: y280 :: y281 :: y282 :: y283 :: y284 :: y285 :: y286 :: y287 :: y288 :: y289 :: y290 :: y291 :: y292 :: y293 :: y294 :: y295 :: y296 :: y297 :: y298 :: y299 :: y300 :: y301 :: y302 :: y303 :: y304 :: y305 :: y306 :: y307 :: y308 :: y309 :: y310 :: y311 :: y312 :: y313 :: y314 :: y315 :: y316 :: y317 :: y318 :: y319 :: y320 :: y321 :: y322 :: y323 :: y324 :: y325 :: y326 :: y327 :: y328 :: y329 :: y330 :: y331 :: y332 :: y333 :: y334 :: y335 :: y336 :: y337 :: y338 :: y339 :: y340 :: y341 :: y342 :: y343 :: y344 :: y345 :: y346 :: y347 :: y348 :: y349 :: y350 :: y351 :: y352 :: y353 :: y354 :: y355 :: y356 :: y357 :: y358 :: y359 :: y360 :: y361 :: y362 :: y363 :: y364 :: y365 :: y366 :: y367 :: y368 :: y369 :: y370 :: y371 :: y372 :: y373 :: y374 :: y375 :: y376 :: y377 :: y378 :: y379 :: y380 :: y381 :: y382 :: y383 :: y384 :: y385 :: y386 :: y387 :: y388 :: y389 :: y390 :: y391 :: y392 :: y393 :: y394 :: y395 :: y396 :: y397 :: y398 :: y399 :: y400 :: y401 :: y402 :: y403 :: y404 :: y405 :: y406 :: y407 :: y408 :: y409 :: y410 :: y411 :: y412 :: y413 :: y414 :: y415 :: y416 :: y417 :: y418 :: y419 :: y420 :: y421 :: y422 :: y423 :: y424 :: y425 :: y426 :: y427 :: y428 :: y429 :: y430 :: y431 :: y432 :: y433 :: y434 :: y435 :: y436 :: y437 :: y438 :: y439 :: y440 :: y441 :: y442 :: y443 :: y444 :: y445 :: y446 :: y447 :: y448 :: y449 :: y450 :: y451 :: y452 :: y453 :: y454 :: y455 :: y456 :: y457 :: y458 :: y459 :: y460 :: y461 :: y462 :: y463 :: y464 :: y465 :: y466 :: y467 :: y468 :: y469 :: y470 :: y471 :: y472 :: y473 :: y474 :: y475 :: y476 :: y477 :: y478 :: y479 :: y480 :: y481 :: y482 :: y483 :: y484 :: []), defers := [] } X := by
  subst hkK
  have hNS0 := hNS
  obtain ⟨bel, low, arb, tab, buk, own1, id1, es1, len1, own2, id2, es2, len2, rec1, rec1', rec2, rec2', pings, pne, now, con, cne, xid, bases, apart⟩ := hNS0
  have c0 : X.cell? ⟨ccb, 0, none⟩ = some (.slice (some ⟨xb, 0, none⟩) 1 1) := (cell_of_heap con 0).trans rfl
  have c1 : X.cell? ⟨ccb, 1, none⟩ = some (.int .u64 xclk) := (cell_of_heap con 1).trans rfl
  have c2 : X.cell? ⟨ccb, 2, none⟩ = some .nilIface := (cell_of_heap con 2).trans rfl
  have d0 : X.cell? ⟨nb, 0, none⟩ = some (.int .u64 tn) := (cell_of_heap now 0).trans rfl
  have d1 : X.cell? ⟨nb, 1, none⟩ = some (.int .i64 ts) := (cell_of_heap now 1).trans rfl
  have d2 : X.cell? ⟨nb, 2, none⟩ = some (.pointer none) := (cell_of_heap now 2).trans rfl
  have hesl : es.length = k := by have := congrArg List.length es1; simpa [len1] using this
  have herl : er.length = rl := by have := congrArg List.length es2; simpa [len2] using this
  have idx : IdAt X xb 1 key := ⟨⟨_, xid, rfl⟩, Nat.le_refl _⟩
  have PA := hide (placeHit0 tb bb k p Rn k 0 ping pb xb 1 key xclk ts tn g k vc base es X cb go gc mb kb ab 0 aClk g2 rl rc base2 j er tab arb (by omega) (by omega) buk own1 id1 hesl (by omega) (by omega) (by omega) idx (by omega) own2 id2 herl (by omega) bases.2.2.2 hkey hek hj ((er_key (es2.trans hlr) j hj).trans hfj) (fun t ht h => by rw [er_key (es2.trans hlr) t ht] at h; exact hF.inj t j (by omega) (by omega) (h.trans hfj.symm)) (fun e => apart g g2 rfl rfl e))
  have HKK := hide hKK
  have HNS := hide hNS
  have HA := hide (And.intro arb (And.intro buk own2))
  clear hKK hNS
  conv => arg 2; whnf
  go_wp2_with fail
  refine PA.out.mono ?_
  intro e Y hpost
  unfold Hit0Post at hpost
  obtain ⟨ov, rfl, hov, hAO, hrowY, hkY⟩ := hpost
  obtain ⟨oa, om, oc, rfl⟩ := hov.shape
  unfold outOld
  go_wp2_with fail
  refine HKK.out _ _ ?_
  conv => arg 2; whnf
  have hCS0 := NS.after HNS.out hkY (memh5 [cb, go, gc, g2] (fun x hx => by simp at hx; omega))
  have hoz := heap_alloc_new' Y (.cells #[.slice none 0 0, .int .u64 0, .nilIface, .bool false, .bool false, .slice none 0 0, .int .u64 0, .nilIface, .slice oa om oc] 75)
  have hYY : Below Y.heap.size Y (Y.alloc (.cells #[.slice none 0 0, .int .u64 0, .nilIface, .bool false, .bool false, .slice none 0 0, .int .u64 0, .nilIface, .slice oa om oc] 75)) := below_al (Below.refl _ _) _
  generalize Y.alloc (.cells #[.slice none 0 0, .int .u64 0, .nilIface, .bool false, .bool false, .slice none 0 0, .int .u64 0, .nilIface, .slice oa om oc] 75) = Y1 at hoz hYY ⊢
  have hCS := hCS0.below hYY
  have hov1 := hov.of_heap hYY.size (fun q cs t h _ => hYY.block q (lt_of_heap h)) hCS0.id1
  have nbb : bb ∉ [cb, go, gc, g2] := by
    obtain ⟨cs, h⟩ := HA.out.2.1.tag
    obtain ⟨gs, hgs⟩ := own_heap HA.out.2.2
    obtain ⟨a1, a2, a3⟩ := HA.out.1.apart h (by decide) (by decide)
    have a4 := heap_ne h hgs (by decide)
    simp [a1, a2, a3, a4]
  have hB1 := (HA.out.2.1.of_block (hkY.block bb HA.out.2.1.lt nbb)).of_block (hYY.block bb (by have := HA.out.2.1.lt; have := hkY.size; omega))
  have hAO1 := hAO.of_kp0 (Kp.nil.2 hYY)
  have HF1 := hide ((hF.kp hkY (NS.tags HNS.out (memh5 [cb, go, gc, g2] (fun x hx => by simp at hx; omega)))).kp (Kp.nil.2 hYY) (by simp))
  have hor1 := own_of_block hrowY (hYY.block g2 (low_of hrowY g2 rfl))
  have HM := hide (And.intro hor1 hov1)
  clear hor1 hrowY hAO hov hov1
  obtain ⟨bs, hbb, u1, u2, u3⟩ := hB1.at_
  obtain ⟨tcs, ht, t1, t2, t3, t4, t5, t6⟩ := hCS.tab.at_
  have b6 := (cell_of_heap hbb 6).trans u1
  have b9 := (cell_of_heap hbb 9).trans u2
  have t32 := (cell_of_heap ht 32).trans t6
  have pg : Y1.cell? ⟨pb, 0, none⟩ = some (.int .i64 0) := (cell_of_heap hCS.pgh 0).trans rfl
  have oz := cell_of_heap hoz
  simp at oz
  have lbb := lt_of_heap hbb
  have hkK' : ¬ (k : Int) < (k : Int) := by omega
  have SM := hide (same_any (some ⟨g, 0, none⟩) (some ⟨rb, 0, none⟩) k vc k es l Y1 (by omega) len1 es1 hok1 (ents_own hCS.own1 hCS.id1) (fun _ => ⟨rb, 0, rfl, hCS.rec1.1, hCS.rec1.2⟩))
  have HCS := hide hCS
  have HB1 := hide hB1
  have HZ := hide hoz
  clear hCS hCS0 hB1 hoz hYY hbb u1 u2 u3 ht t1 t2 t3 t4 t5 t6 tab buk own1 own2 id1 id2 rec1 rec1' rec2 rec2' pings now con xid arb c0 c1 c2 d0 d1 d2 PA bel idx hkY
  go_upto_region 38 with (go_at_call 14; refine (aload bb 6 0 _ b6).mono ?_; rintro e w' ⟨rfl, hw⟩; obtain rfl := hw.symm)
  go_upto_region 50 with (go_at_call 13; refine SM.out.mono ?_; rintro e Y2 ⟨rfl, h12⟩)
  clear b6 b9 t32 pg oz SM
  have hCS2 := HCS.out.below h12
  have hB2 := HB1.out.of_block (h12.block bb HB1.out.lt)
  have hz2 := (h12.block _ (lt_of_heap HZ.out)).trans HZ.out
  have oz2 := cell_of_heap hz2
  simp at oz2
  have hAO2 := hAO1.of_kp0 (Kp.nil.2 h12)
  have hRz : ((Rn : Int) == 0) = false := by rw [beq_eq_false_iff_ne]; omega
  have hF2 := HF1.out.kp (Kp.nil.2 h12) (by simp)
  have kc2 : Y2.cell? ⟨kb, 0, none⟩ = some (.int .u8 (key : Int)) := (cell_of_heap hCS2.kbh 0).trans rfl
  have cl2 : Y2.cell? ⟨cb, 0, none⟩ = some (.int .i64 1) := (cell_of_heap hAO2.h0 0).trans rfl
  have go0 : Y2.cell? ⟨go, 0, none⟩ = some (.slice (some ⟨er[j].blk, 0, none⟩) 1 er[j].cap) := (cell_of_heap hAO2.h1 0).trans rfl
  have go1 : Y2.cell? ⟨go, 1, none⟩ = some (.int .u64 er[j].clk) := (cell_of_heap hAO2.h1 1).trans rfl
  have gc0 : Y2.cell? ⟨gc, 0, none⟩ = some (.slice (some ⟨xb, 0, none⟩) 1 1) := (cell_of_heap hAO2.h2 0).trans rfl
  have gc1 : Y2.cell? ⟨gc, 1, none⟩ = some (.int .u64 xclk) := (cell_of_heap hAO2.h2 1).trans rfl
  have mb2 : Y2.cell? ⟨mb, 0, none⟩ = some (.int .u8 0) := (cell_of_heap hCS2.mbh 0).trans rfl
  have hejk : er[j].key = key := (er_key (es2.trans hlr) j hj).trans hfj
  have hejc : er[j].clk = 100 + (j : Int) := by
    have h1 : (er.map Ent.toRec)[j]? = (mkO 100 fr rl)[j]? := by rw [es2, hlr]
    rw [List.getElem?_map, List.getElem?_eq_getElem hj, List.getElem?_eq_getElem (by rw [mkO_length]; omega), mkO_get] at h1
    simp only [Option.map_some, Option.some.injEq] at h1
    have := congrArg Rec.clk h1
    simpa [Ent.toRec] using this
  rw [hejc] at go1
  have hidj : IdAt Y2 er[j].blk er[j].cap key := by
    have := hCS2.id2 er[j] (List.getElem_mem hj)
    rwa [hejk] at this
  have hidx2 : IdAt Y2 xb 1 key := ⟨⟨_, hCS2.xbh, rfl⟩, Nat.le_refl _⟩
  have lkb := lt_of_heap hCS2.kbh
  have lgo := lt_of_heap hAO2.h1
  have lgc := lt_of_heap hAO2.h2
  have lmb := lt_of_heap hCS2.mbh
  have BQ1 := hide (beq_new Y2 er[j].blk er[j].cap key Y2.heap.size rfl hkey hidj.cell)
  have BQ2 := hide (beq_new (Y2.alloc (.cells #[.int .u8 (key : Int)] 5)) xb 1 key (Y2.heap.size + 1) (by simp) hkey ((World.cell?_alloc_past _ _ _ hidx2.lt).trans hidx2.cell))
  obtain ⟨ej, hee⟩ : ∃ e, er[j] = e := ⟨_, rfl⟩
  have HEJ := hide hee
  rw [hee] at go0 BQ1
  have HF2 := hide hF2
  have HC2 := hide hCS2
  have hFJ := hide (And.intro hfj hF.inj)
  have hjl : j < rl := by omega
  clear hAO2 hF2 hCS2 hB2 hz2 hfj hidj hidx2 hejc hejk hF hee
  go_upto_region 54 with fail
  refine law_loop3 (gi := gr) (f := fr) (key := key) (by omega) (fun h => (HF2.out.hva h).1) HF2.out.at_ kc2 ?_
  intro t51 t52 t316 t317 t318 t319 t320 t321 t322 t323 t324 t325 r hr
  obtain rfl : r = (j : Int) := by
    rcases hr with ⟨_, h⟩ | ⟨i, h1, h2, h3⟩
    · exact absurd hFJ.out.1 (h j hjl)
    · rw [h2, hFJ.out.2 i j h1 hjl (h3.trans hFJ.out.1.symm)]
  have hj0 : ¬ (j : Int) < 0 := by omega
  have kc3 : ∀ o, (Y2.alloc o).cell? ⟨kb, 0, none⟩ = some (.int .u8 (key : Int)) := fun o => (World.cell?_alloc_past _ _ _ lkb).trans kc2
  go_upto_region 71 with (first | (go_at_call 11; refine BQ1.out.mono ?_; rintro e w' ⟨rfl, hw⟩; obtain rfl := hw.symm) | (go_at_call 11; refine BQ2.out.mono ?_; rintro e w' ⟨rfl, hw⟩; obtain rfl := hw.symm))
  have h23 : Below Y2.heap.size Y2 ((Y2.alloc (.cells #[.int .u8 (key : Int)] 5)).alloc (.cells #[.int .u8 (key : Int)] 5)) := below_al (below_al (Below.refl _ _) _) _
  generalize (Y2.alloc (.cells #[.int .u8 (key : Int)] 5)).alloc (.cells #[.int .u8 (key : Int)] 5) = Y3 at h23 ⊢
  have h13 : Below Y1.heap.size Y1 Y3 := h12.trans (h23.mono h12.size)
  have hCS3 := HC2.out.below h23
  have mb3 : Y3.cell? ⟨mb, 0, none⟩ = some (.int .u8 0) := (cell_of_heap hCS3.mbh 0).trans rfl
  clear mb2 kc2 kc3 cl2 go0 go1 gc0 gc1 BQ1 BQ2 oz2
  have hm2 : ((0 : Int) == 2) = false := rfl
  have hm0 : ((0 : Int) == 0) = true := rfl
  obtain ⟨hor1, hov1⟩ := HM.out
  have hov3 := hov1.of_heap h13.size (fun q cs t h _ => h13.block q (lt_of_heap h)) HCS.out.id1
  have hz3 := (h13.block _ (lt_of_heap HZ.out)).trans HZ.out
  have hB3 := HB1.out.of_block (h13.block bb HB1.out.lt)
  have hor3 := own_of_block hor1 (h13.block g2 (low_of hor1 g2 rfl))
  have WO := without_in (Z := Y3) (X' := Y3) (i := -1) (Below.refl _ _) hCS3.rec2.1 hCS3.rec2.2 len2 (by omega)
  rw [wo_neg lr rl len2, len2] at WO
  have HWO := hide WO
  have HQ := hide (And.intro hor3 (And.intro hov3 (And.intro hz3 (And.intro hB3 hCS3))))
  clear hor1 hov1 hor3 hov3 hz3 hB3 hCS3 HM WO
  go_upto_region 76 with (go_at_call 15; refine HWO.out.mono ?_; rintro e Y4 ⟨v4, rfl, hrow4, _, h34⟩)
  obtain ⟨g3, c3, rfl⟩ := own_some hrow4 (by omega)
  obtain ⟨hor3, hov3, hz3, hB3, hCS3⟩ := HQ.out
  have hCS4 := hCS3.below h34
  have hjl2 : j < lr.length := by omega
  have hrj := recAt_own (R := []) (by rw [List.append_nil]; exact hrow4) j hjl2
  have n0 : Y4.cell? ⟨nb, 0, none⟩ = some (.int .u64 tn) := (cell_of_heap hCS4.nbh 0).trans rfl
  have n1 : Y4.cell? ⟨nb, 1, none⟩ = some (.int .i64 ts) := (cell_of_heap hCS4.nbh 1).trans rfl
  have n2 : Y4.cell? ⟨nb, 2, none⟩ = some (.pointer none) := (cell_of_heap hCS4.nbh 2).trans rfl
  have fz : ∀ t, Y4.frozen? ⟨g3, t, none⟩ = false := fun t => hrow4.frozenAt t
  have r2 := hrj.c2
  have r3 := hrj.c3
  have r4 := hrj.c4
  have oh := rec_heard hrow4 (i := j) hjl2 ts tn
  obtain ⟨gcs3, hgc3⟩ := own_heap hrow4
  have hg3 : Y3.heap.size ≤ g3 := own_ge hrow4 g3 rfl
  have h45 : Below Y3.heap.size Y3 (((Y4.setCell ⟨g3, j * 5 + 2, none⟩ (.int .u64 tn)).setCell ⟨g3, j * 5 + 2 + 1, none⟩ (.int .i64 ts)).setCell ⟨g3, j * 5 + 2 + 2, none⟩ (.pointer none)) := ((h34.setCell (p := ⟨g3, j * 5 + 2, none⟩) hg3 _).setCell (p := ⟨g3, j * 5 + 2 + 1, none⟩) hg3 _).setCell (p := ⟨g3, j * 5 + 2 + 2, none⟩) hg3 _
  have hji : (j : Int) < (rl : Int) := by omega
  have HR4 := hide (And.intro oh h45)
  clear oh h45 hrj hrow4 hor3 hov3 hz3 hB3 hCS3 hCS4 hgc3 h34
  go_upto_region 77 with fail
  obtain ⟨oh, h35⟩ := HR4.out
  generalize ((Y4.setCell ⟨g3, j * 5 + 2, none⟩ (.int .u64 tn)).setCell ⟨g3, j * 5 + 2 + 1, none⟩ (.int .i64 ts)).setCell ⟨g3, j * 5 + 2 + 2, none⟩ (.pointer none) = Y5 at oh h35 ⊢
  obtain ⟨hor3, hov3, hz3, hB3, hCS3⟩ := HQ.out
  have hCS5 := hCS3.below h35
  have hov5 := hov3.of_heap h35.size (fun q cs t h _ => h35.block q (lt_of_heap h)) hCS3.id1
  have hor5 := own_of_block hor3 (h35.block g2 (low_of hor3 g2 rfl))
  have RC := hide (rcheck_any ping p k k (some ⟨rb, 0, none⟩) _ es l Y5 (by omega) len1 es1 hov5 (fun _ => ⟨rb, 0, rfl, hCS5.rec1.1, hCS5.rec1.2⟩))
  unfold outOld at RC
  have hz5 := (h35.block _ (lt_of_heap hz3)).trans hz3
  have oz5 := cell_of_heap hz5
  simp at oz5
  have hB5 := hB3.of_block (h35.block bb hB3.lt)
  obtain ⟨bs, hbb, u1, u2, u3⟩ := hB5.at_
  have b10 := (cell_of_heap hbb 10).trans u3
  have lbb5 := lt_of_heap hbb
  obtain ⟨g3s, hg3s⟩ := own_heap oh
  have SM2 := hide (fun (Z : World) (hZ : Below Y5.heap.size Y5 Z) => same_any (some ⟨g2, 0, none⟩) (some ⟨g3, 0, none⟩) rl rc c3 (er.set j { er[j] with s := ts, n := tn }) (lr.set j { lr[j] with s := ts, n := tn }) Z (by omega) (by simp [len2]) (by
    rw [List.map_set, es2]
    congr 1
    have h1 : (er.map Ent.toRec)[j]? = lr[j]? := by rw [es2]
    rw [List.getElem?_map, List.getElem?_eq_getElem hj, List.getElem?_eq_getElem hjl2] at h1
    simp only [Option.map_some, Option.some.injEq] at h1
    rw [← h1]
    rfl) (fun r hr => by
    rcases List.mem_or_eq_of_mem_set hr with h | h
    · exact hok2 r h
    · rw [h]; exact htn) (ents_own (own_of_block hor5 (hZ.block g2 (low_of hor5 g2 rfl))) (fun e he => by
    rcases List.mem_or_eq_of_mem_set he with h | h
    · exact (hCS5.below hZ).id2 e h
    · rw [h]
      exact (hCS5.below hZ).id2 er[j] (List.getElem_mem hj))) (fun _ => ⟨g3, 0, rfl, Nat.lt_of_lt_of_le (lt_of_heap hg3s) hZ.size, fun t ht => by
    have := (recAt_own (R := []) (by rw [List.append_nil]; exact oh) t ht).of_block (hZ.block g3 (lt_of_heap hg3s))
    rwa [Nat.zero_add]⟩))
  have HC5 := hide hCS5
  clear hor3 hov3 hz3 hB3 hCS3 hCS5 hov5 hor5 oh hz5 hB5 hbb u1 u2 u3 hg3s HR4 HQ HWO n0 n1 n2 r2 r3 r4 fz
  go_wp2_with (first | (go_at_call 18; refine RC.out.mono ?_; rintro e Y6 ⟨rfl, h56⟩; have b106 := (World.cell?_of_block (w := Y5) (a := ⟨bb, 10, none⟩) (h56.block bb lbb5)).trans b10) | (go_at_call 13; refine (SM2.out _ h56).mono ?_; rintro e Y7 ⟨rfl, h67⟩))
  go_ret
  exact ⟨rfl, ((HC5.out.below h56).below h67).bel⟩

end Go.Proofs.YbulkagdqDoor

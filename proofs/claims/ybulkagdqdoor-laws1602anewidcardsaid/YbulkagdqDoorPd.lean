import Derived.Test.YbulkagdqDoorPc
import Derived.BigQuiet
namespace Go.Proofs.YbulkagdqDoor
open Go.RowKit
set_option linter.unusedVariables false
set_option maxRecDepth 100000

theorem NS.tags {w X : World} {kb ab mb cb go gc pb tb bb nb ccb xb rb rrb key : Nat} {aClk m xclk ts tn : Int} {K : Int} {p : Nat} {R : Int} {ping : Bool} {k rl : Nat} {va ra : Option Addr} {vc rc base base2 : Nat} {es er : List Ent} {l lr : List Rec} {D : List Nat}
    (h : NS w X kb ab mb cb go gc pb tb bb nb ccb xb rb rrb key aClk m xclk ts tn K p R ping k rl va ra vc rc base base2 es er l lr)
    (hD : ∀ x ∈ D, x = cb ∨ x = go ∨ x = gc ∨ x = bb ∨ (Value.slice ra rl rc).ownBlock = some x) : ∀ x ∈ D, ∃ cs t, X.heap[x]? = some (.cells cs t (0, 0)) ∧ t ≠ 5 := fun x hx => by
  obtain ⟨q0, ⟨x0, x1, x2, q1⟩, ⟨y0, y1, y2, q2⟩, q3, q4, q5, hne⟩ := h.arb
  rcases hD x hx with e | e | e | e | e
  · exact ⟨_, 3, by rw [e]; exact q0, by decide⟩
  · exact ⟨_, 58, by rw [e]; exact q1, by decide⟩
  · exact ⟨_, 58, by rw [e]; exact q2, by decide⟩
  · obtain ⟨cs, hc⟩ := h.buk.tag
    exact ⟨cs, 56, by rw [e]; exact hc, by decide⟩
  · obtain ⟨cs, hc⟩ := own_tag h.own2 e
    exact ⟨cs, 60, hc, by decide⟩
theorem er_key {er : List Ent} {fr : Nat → Nat} {rl : Nat} (h : er.map Ent.toRec = mkO 100 fr rl) (t : Nat) (ht : t < er.length) : er[t].key = fr t := by
  have h1 : (er.map Ent.toRec)[t]? = (mkO 100 fr rl)[t]? := by rw [h]
  have hl : er.length = rl := by have := congrArg List.length h; simpa [mkO_length] using this
  rw [List.getElem?_map, List.getElem?_eq_getElem ht, List.getElem?_eq_getElem (by rw [mkO_length]; omega), mkO_get] at h1
  simp only [Option.map_some, Option.some.injEq] at h1
  exact congrArg Rec.key h1

theorem mem_D {cb go gc : Nat} (bb : Nat) (o : Option Nat) : ∀ x ∈ (bb :: o.toList), x = cb ∨ x = go ∨ x = gc ∨ x = bb ∨ o = some x := fun x hx => by
  rcases List.mem_cons.1 hx with e | hx
  · exact .inr (.inr (.inr (.inl e)))
  · exact .inr (.inr (.inr (.inr (by simpa using hx))))

set_option maxHeartbeats 12000000 in
theorem tailMiss {KK : Act → World → Prop} {w X : World} {kb ab mb cb go gc pb tb bb nb ccb xb rb rrb key : Nat} {aClk m xclk ts tn : Int} {Kn p Rn : Nat} {ping : Bool} {k rl : Nat} {g : Nat} {ra : Option Addr} {vc rc base base2 : Nat} {es er : List Ent} {l lr : List Rec} {ia ja : Option Addr} {ic jc : Nat} {y0 y1 y2 y3 y4 y5 y8 y9 y10 y11 y12 y14 y15 y16 y17 y18 y20 y21 y22 y29 y30 y32 y33 y39 y41 y46 y47 y48 y49 y50 y51 y52 y53 y54 y55 y56 y57 y58 y59 y60 y61 y62 y63 y64 y65 y66 y67 y68 y69 y70 y71 y72 y73 y74 y75 y76 y77 y78 y79 y80 y81 y82 y83 y84 y85 y86 y87 y88 y89 y90 y91 y92 y93 y94 y95 y96 y97 y98 y99 y100 y101 y102 y103 y104 y105 y106 y107 y108 y109 y110 y111 y112 y113 y114 y115 y116 y117 y118 y119 y120 y121 y122 y123 y124 y125 y126 y127 y128 y129 y130 y131 y132 y133 y134 y135 y136 y137 y138 y139 y140 y141 y142 y143 y144 y145 y146 y147 y148 y149 y150 y151 y152 y153 y154 y155 y156 y157 y158 y159 y160 y161 y162 y163 y164 y165 y166 y167 y168 y169 y170 y171 y172 y173 y174 y175 y176 y177 y178 y179 y180 y181 y182 y183 y184 y185 y186 y187 y188 y189 y190 y191 y192 y193 y194 y195 y196 y197 y198 y199 y200 y201 y202 y203 y204 y205 y206 y207 y208 y209 y210 y211 y212 y213 y214 y215 y216 y217 y218 y219 y220 y221 y222 y223 y224 y225 y226 y227 y228 y229 y230 y231 y232 y233 y234 y235 y236 y237 y238 y239 y240 y241 y242 y243 y244 y245 y246 y247 y248 y249 y250 y251 y252 y253 y254 y255 y256 y257 y258 y259 y260 y261 y262 y263 y264 y265 y266 y267 y268 y269 y270 y271 y272 y273 y274 y275 y276 y277 y278 y279 y280 y281 y282 y283 y284 y285 y286 y287 y288 y289 y290 y291 y292 y293 y294 y295 y296 y297 y298 y299 y300 y301 y302 y303 y304 y305 y306 y307 y308 y309 y310 y311 y312 y313 y314 y315 y316 y317 y318 y319 y320 y321 y322 y323 y324 y325 y326 y327 y328 y329 y330 y331 y332 y333 y334 y335 y336 y337 y338 y339 y340 y341 y342 y343 y344 y345 y346 y347 y348 y349 y350 y351 y352 y353 y354 y355 y356 y357 y358 y359 y360 y361 y362 y363 y364 y365 y366 y367 y368 y369 y370 y371 y372 y373 y374 y375 y376 y377 y378 y379 y380 y381 y382 y383 y384 y385 y386 y387 y388 y389 y390 y391 y392 y393 y394 y395 y396 y397 y398 y399 y400 y401 y402 y403 y404 y405 y406 y407 y408 y409 y410 y411 y412 y413 y414 y415 y416 y417 y418 y419 y420 y421 y422 y423 y424 y425 y426 y427 y428 y429 y430 y431 y432 y433 y434 y435 y436 y437 y438 y439 y440 y441 y442 y443 y444 y445 y446 y447 y448 y449 y450 y451 y452 y453 y454 y455 y456 y457 y458 y459 y460 y461 y462 y463 y464 y465 y466 y467 y468 y469 y470 y471 y472 y473 y474 y475 y476 y477 y478 y479 y480 y481 y482 y483 y484 : Value} {gr b0 : Nat} {fr : Nat → Nat}
    (hNS : NS w X kb ab mb cb go gc pb tb bb nb ccb xb rb rrb key aClk m xclk ts tn Kn p Rn ping k rl (some ⟨g, 0, none⟩) ra vc rc base base2 es er l lr) (hkey : key < 256) (hK8 : Kn ≤ 8) (hk8 : k ≤ 8) (hR3 : Rn ≤ 3) (hp4 : p ≤ 4) (htn : 0 ≤ tn ∧ tn < 1000000000) (hok1 : ∀ r ∈ l, 0 ≤ r.n ∧ r.n < 1000000000) (hok2 : ∀ r ∈ lr, 0 ≤ r.n ∧ r.n < 1000000000) (hkK : k = Kn) (hk1 : 1 ≤ k) (hR1 : 1 ≤ Rn) (hrlR : rl ≤ Rn) (hlr : lr = mkO 100 fr rl) (hF : IdsF X ja rl b0 gr fr) (hek : ∀ e ∈ er, e.key < 256) (hms : ∀ t, t < rl → fr t ≠ key)
    (hKK : ∀ a w1, Code.wp Ybad.prog (afOf Ybad.f4.body 35) (bodyPost Ybad.prog Ybad.f4 (fun e w' => e = Ending.returned (.bool true) ∧ Below w.heap.size w w')) a w1 → KK a w1) :
    Code.wp Ybad.prog (rgOf Ybad.f4.body 35) (Exit.then KK (bodyPost Ybad.prog Ybad.f4 (fun e w' => e = Ending.returned (.bool true) ∧ Below w.heap.size w w'))) { tmps := List.toArray (y0 :: y1 :: y2 :: y3 :: y4 :: y5 :: (.bool ping) :: (.int .u64 xclk) :: y8 :: y9 :: y10 :: y11 :: y12 :: (.pointer (some ⟨kb, 0, none⟩)) :: y14 :: y15 :: y16 :: y17 :: y18 :: (.pointer (some ⟨ab, 0, none⟩)) :: y20 :: y21 :: y22 :: (.int .i64 (Kn : Int)) :: (.int .i64 (Rn : Int)) :: (.int .i64 (p : Int)) :: (.slice ia k ic) :: (.slice ja rl jc) :: (.slice (some ⟨rb, 0, none⟩) k k) :: y29 :: y30 :: (.slice (some ⟨rrb, 0, none⟩) rl rl) :: y32 :: y33 :: (.pointer (some ⟨bb, 0, none⟩)) :: (.pointer (some ⟨mb, 0, none⟩)) :: (.pointer (some ⟨cb, 0, none⟩)) :: (.pointer (some ⟨go, 0, none⟩)) :: (.pointer (some ⟨gc, 0, none⟩)) :: y39 :: (.pointer (some ⟨pb, 0, none⟩)) :: y41 :: (.pointer (some ⟨tb, 0, none⟩)) :: (.pointer (some ⟨nb, 0, none⟩)) :: (.pointer (some ⟨ccb, 0, none⟩)) :: (.slice (some ⟨xb, 0, none⟩) 1 1) :: y46 :: y47 :: y48 :: y49 :: y50 :: y51 :: y52 :: y53 :: y54 :: y55 :: y56 :: y57 :: y58 :: y59 :: y60 :: y61 :: y62 :: y63 :: y64 :: y65 :: y66 :: y67 :: y68 :: y69 :: y70 :: y71 :: y72 :: y73 :: y74 :: y75 :: y76 :: y77 :: y78 :: y79 :: y80 :: y81 :: y82 :: y83 :: y84 :: y85 :: y86 :: y87 :: y88 :: y89 :: y90 :: y91 :: y92 :: y93 :: y94 :: y95 :: y96 :: y97 :: y98 :: y99 :: y100 :: y101 :: y102 :: y103 :: y104 :: y105 :: y106 :: y107 :: y108 :: y109 :: y110 :: y111 :: y112 :: y113 :: y114 :: y115 :: y116 :: y117 :: y118 :: y119 :: y120 :: y121 :: y122 :: y123 :: y124 :: y125 :: y126 :: y127 :: y128 :: y129 :: y130 :: y131 :: y132 :: y133 :: y134 :: y135 :: y136 :: y137 :: y138 :: y139 :: y140 :: y141 :: y142 :: y143 :: y144 :: y145 :: y146 :: y147 :: y148 :: y149 :: y150 :: y151 :: y152 :: y153 :: y154 :: y155 :: y156 :: y157 :: y158 :: y159 :: y160 :: y161 :: y162 :: y163 :: y164 :: y165 :: y166 :: y167 :: y168 :: y169 :: y170 :: y171 :: y172 :: y173 :: y174 :: y175 :: y176 :: y177 :: y178 :: y179 :: y180 :: y181 :: y182 :: y183 :: y184 :: y185 :: y186 :: y187 :: y188 :: y189 :: y190 :: y191 :: y192 :: y193 :: y194 :: y195 :: y196 :: y197 :: y198 :: y199 :: y200 :: y201 :: y202 :: y203 :: y204 :: y205 :: y206 :: y207 :: y208 :: y209 :: y210 :: y211 :: y212 :: y213 :: y214 :: y215 :: y216 :: y217 :: y218 :: y219 :: y220 :: y221 :: y222 :: y223 :: y224 :: y225 :: y226 :: y227 :: y228 :: y229 :: y230 :: y231 :: y232 :: y233 :: y234 :: y235 :: y236 :: y237 :: y238 :: y239 :: y240 :: y241 :: y242 :: y243 :: y244 :: y245 :: y246 :: y247 :: y248 :: y249 :: y250 :: y251 :: y252 :: y253 :: y254 :: y255 :: y256 :: y257 :: y258 :: y259 :: y260 :: y261 :: y262 :: y263 :: y264 :: y265 :: y266 :: y267 :: y268 :: y269 :: y270 :: y271 :: y272 :: y273 :: y274 :: y275 :: y276 :: y277 :: y278 :: y279 :: y280 :: y281 :: y282 :: y283 :: y284 :: y285 :: y286 :: y287 :: y288 :: y289 :: y290 :: y291 :: y292 :: y293 :: y294 :: y295 :: y296 :: y297 :: y298 :: y299 :: y300 :: y301 :: y302 :: y303 :: y304 :: y305 :: y306 :: y307 :: y308 :: y309 :: y310 :: y311 :: y312 :: y313 :: y314 :: y315 :: y316 :: y317 :: y318 :: y319 :: y320 :: y321 :: y322 :: y323 :: y324 :: y325 :: y326 :: y327 :: y328 :: y329 :: y330 :: y331 :: y332 :: y333 :: y334 :: y335 :: y336 :: y337 :: y338 :: y339 :: y340 :: y341 :: y342 :: y343 :: y344 :: y345 :: y346 :: y347 :: y348 :: y349 :: y350 :: y351 :: y352 :: y353 :: y354 :: y355 :: y356 :: y357 :: y358 :: y359 :: y360 :: y361 :: y362 :: y363 :: y364 :: y365 :: y366 :: y367 :: y368 :: y369 :: y370 :: y371 :: y372 :: y373 :: y374 :: y375 :: y376 :: y377 :: y378 :: y379 :: y380 :: y381 :: y382 :: y383 :: y384 :: y385 :: y386 :: y387 :: y388 :: y389 :: y390 :: y391 :: y392 :: y393 :: y394 :: y395 :: y396 :: y397 :: y398 :: y399 :: y400 :: y401 :: y402 :: y403 :: y404 :: y405 :: y406 :: y407 :: y408 :: y409 :: y410 :: y411 :: y412 :: y413 :: y414 :: y415 :: y416 :: y417 :: y418 :: y419 :: y420 :: y421 :: y422 :: y423 :: y424 :: y425 :: y426 :: y427 :: y428 :: y429 :: y430 :: y431 :: y432 :: y433 :: y434 :: y435 :: y436 :: y437 :: y438 :: y439 :: y440 :: y441 :: y442 :: y443 :: y444 :: y445 :: y446 :: y447 :: y448 :: y449 :: y450 :: y451 :: y452 :: y453 :: y454 :: y455 :: y456 :: y457 :: y458 :: y459 :: y460 :: y461 :: y462 :: y463 :: y464 :: y465 :: y466 :: y467 :: y468 :: y469 :: y470 :: y471 :: y472 :: y473 :: y474 :: y475 :: y476 :: y477 :: y478 :: y479 :: y480 :: y481 :: y482 :: y483 :: y484 :: []), defers := [] } X := by
  subst hkK
  have hNS0 := hNS
  obtain ⟨bel, low, arb, tab, buk, own1, id1, es1, len1, own2, id2, es2, len2, rec1, rec1', rec2, rec2', pings, pne, now, con, cne, xid, bases, apart⟩ := hNS0
  have c0 : X.cell? ⟨ccb, 0, none⟩ = some (.slice (some ⟨xb, 0, none⟩) 1 1) := (cell_of_heap con 0).trans rfl
  have c1 : X.cell? ⟨ccb, 1, none⟩ = some (.int .u64 xclk) := (cell_of_heap con 1).trans rfl
  have c2 : X.cell? ⟨ccb, 2, none⟩ = some .nilIface := (cell_of_heap con 2).trans rfl
  have d0 : X.cell? ⟨nb, 0, none⟩ = some (.int .u64 tn) := (cell_of_heap now 0).trans rfl
  have d1 : X.cell? ⟨nb, 1, none⟩ = some (.int .i64 ts) := (cell_of_heap now 1).trans rfl
  have d2 : X.cell? ⟨nb, 2, none⟩ = some (.pointer none) := (cell_of_heap now 2).trans rfl
  have hesl : es.length = k := by have := congrArg List.length es1; simpa [len1] using this
  have herl : er.length = rl := by have := congrArg List.length es2; simpa [len2] using this
  have idx : IdAt X xb 1 key := ⟨⟨_, xid, rfl⟩, Nat.le_refl _⟩
  have PA := hide (placeMiss tb bb k p Rn k 0 ping pb xb 1 key xclk ts tn g k vc base es X _ ra rl rc base2 er tab buk own1 id1 hesl (by omega) (by omega) (by omega) idx (by omega) own2 id2 herl (by omega) bases.2.2.2 hkey hek (fun e he => by obtain ⟨t, ht, rfl⟩ := List.getElem_of_mem he; rw [er_key (es2.trans hlr) t ht]; exact hms t (by omega)) (fun q hq => apart g q rfl hq))
  have HKK := hide hKK
  have HNS := hide hNS
  have HA := hide (And.intro arb (And.intro buk own2))
  clear hKK hNS
  conv => arg 2; whnf
  go_wp2_with fail
  refine PA.out.mono ?_
  intro e Y hpost
  unfold MissPost at hpost
  obtain ⟨ov, gb, gcap, v', rfl, hov, hgb, hidg, hbY, hrow', hkY⟩ := hpost
  obtain ⟨oa, om, oc, rfl⟩ := hov.shape
  have HRW := hide hrow'
  clear hrow'
  unfold outOld
  go_wp2_with fail
  refine HKK.out _ _ ?_
  conv => arg 2; whnf
  have hCS0 := NS.after HNS.out hkY (mem_D bb _)
  have hoz := heap_alloc_new' Y (.cells #[.slice none 0 0, .int .u64 0, .nilIface, .bool false, .bool false, .slice none 0 0, .int .u64 0, .nilIface, .slice oa om oc] 75)
  have hYY : Below Y.heap.size Y (Y.alloc (.cells #[.slice none 0 0, .int .u64 0, .nilIface, .bool false, .bool false, .slice none 0 0, .int .u64 0, .nilIface, .slice oa om oc] 75)) := below_al (Below.refl _ _) _
  generalize Y.alloc (.cells #[.slice none 0 0, .int .u64 0, .nilIface, .bool false, .bool false, .slice none 0 0, .int .u64 0, .nilIface, .slice oa om oc] 75) = Y1 at hoz hYY ⊢
  have hCS := hCS0.below hYY
  have hov1 := hov.of_heap hYY.size (fun q cs t h _ => hYY.block q (lt_of_heap h)) hCS0.id1
  have hB1 := hbY.of_block (hYY.block bb hbY.lt)
  have ncb : cb ∉ (bb :: (Value.slice ra rl rc).ownBlock.toList) := fun hx => by
    rcases List.mem_cons.1 hx with e | hx
    · obtain ⟨cs, hc⟩ := HA.out.2.1.tag
      exact heap_ne HA.out.1.h0 hc (by decide) e
    · obtain ⟨cs, hc⟩ := own_tag HA.out.2.2 (k := cb) (by simpa using hx)
      exact heap_ne HA.out.1.h0 hc (by decide) rfl
  have hcl : Y1.heap[cb]? = some (.cells #[.int .i64 0] 3 (0, 0)) := (hYY.block cb (by have := lt_of_heap HA.out.1.h0; have := hkY.size; omega)).trans ((hkY.block cb (lt_of_heap HA.out.1.h0) ncb).trans HA.out.1.h0)
  have hF1 := (hF.kp hkY (NS.tags HNS.out (mem_D bb _))).kp (Kp.nil.2 hYY) (by simp)
  have hig1 := hidg.of_block (hYY.block gb hidg.lt)
  have hrow1 : (Rn : Int) < (rl : Int) + 1 → Y1.ownsRow base2 60 6 v' rl (entCells ((er ++ [(⟨gb, gcap, key, xclk, ts, tn⟩ : Ent)]).drop 1)) := fun h => own_block_of (HRW.out.1 h) (fun q hq => hYY.block q (low_of (HRW.out.1 h) q hq))
  have hrow2 : ¬ (Rn : Int) < (rl : Int) + 1 → Y1.ownsRow base2 60 6 v' (rl + 1) (entCells (er ++ [(⟨gb, gcap, key, xclk, ts, tn⟩ : Ent)])) := fun h => own_block_of (HRW.out.2 (by omega)) (fun q hq => hYY.block q (low_of (HRW.out.2 (by omega)) q hq))
  have hgx : gb ≠ xb := by have := lt_of_heap xid; omega
  have HM := hide (And.intro hF1 (And.intro hig1 (And.intro hrow1 hrow2)))
  clear hF1 hig1 hrow1 hrow2 hbY hidg hF
  obtain ⟨bs, hbb, u1, u2, u3⟩ := hB1.at_
  obtain ⟨tcs, ht, t1, t2, t3, t4, t5, t6⟩ := hCS.tab.at_
  have b6 := (cell_of_heap hbb 6).trans u1
  have b9 := (cell_of_heap hbb 9).trans u2
  have t32 := (cell_of_heap ht 32).trans t6
  have pg : Y1.cell? ⟨pb, 0, none⟩ = some (.int .i64 0) := (cell_of_heap hCS.pgh 0).trans rfl
  have oz := cell_of_heap hoz
  simp at oz
  have lbb := lt_of_heap hbb
  have hkK' : ¬ (k : Int) < (k : Int) := by omega
  have SM := hide (same_any (some ⟨g, 0, none⟩) (some ⟨rb, 0, none⟩) k vc k es l Y1 (by omega) len1 es1 hok1 (ents_own hCS.own1 hCS.id1) (fun _ => ⟨rb, 0, rfl, hCS.rec1.1, hCS.rec1.2⟩))
  have HCS := hide hCS
  have HB1 := hide hB1
  have HZ := hide hoz
  clear hCS hCS0 hB1 hoz hYY hbb u1 u2 u3 ht t1 t2 t3 t4 t5 t6 tab buk own1 own2 id1 id2 rec1 rec1' rec2 rec2' pings now con xid arb c0 c1 c2 d0 d1 d2 PA bel idx hkY
  go_upto_region 38 with (go_at_call 14; refine (aload bb 6 0 _ b6).mono ?_; rintro e w' ⟨rfl, hw⟩; obtain rfl := hw.symm)
  go_upto_region 50 with (go_at_call 13; refine SM.out.mono ?_; rintro e Y2 ⟨rfl, h12⟩)
  clear b6 b9 t32 pg oz SM
  have hCS2 := HCS.out.below h12
  have hB2 := HB1.out.of_block (h12.block bb HB1.out.lt)
  have hz2 := (h12.block _ (lt_of_heap HZ.out)).trans HZ.out
  have oz2 := cell_of_heap hz2
  simp at oz2
  have cl2 : Y2.cell? ⟨cb, 0, none⟩ = some (.int .i64 0) := (cell_of_heap ((h12.block _ (lt_of_heap hcl)).trans hcl) 0).trans rfl
  have hov2 := hov1.of_heap h12.size (fun q cs t h _ => h12.block q (lt_of_heap h)) HCS.out.id1
  have RC := hide (rcheck_any ping p k k (some ⟨rb, 0, none⟩) _ es l Y2 (by omega) len1 es1 hov2 (fun _ => ⟨rb, 0, rfl, hCS2.rec1.1, hCS2.rec1.2⟩))
  unfold outOld at RC
  have hRz : ((Rn : Int) == 0) = false := by rw [beq_eq_false_iff_ne]; omega
  have hF2 := HM.out.1.kp (Kp.nil.2 h12) (by simp)
  have kc2 : Y2.cell? ⟨kb, 0, none⟩ = some (.int .u8 (key : Int)) := (cell_of_heap hCS2.kbh 0).trans rfl
  have HF2 := hide hF2
  have HC2 := hide hCS2
  have HMS := hide hms
  clear hov hov1 hov2 hF2 hCS2 hcl hB2 hz2 hms
  go_upto_region 54 with fail
  refine law_loop3 (gi := gr) (f := fr) (key := key) (by omega) (fun h => (HF2.out.hva h).1) HF2.out.at_ kc2 ?_
  intro t51 t52 t316 t317 t318 t319 t320 t321 t322 t323 t324 t325 r hr
  obtain rfl : r = -1 := by
    rcases hr with ⟨h, _⟩ | ⟨i, h1, _, h2⟩
    · exact h
    · exact absurd h2 (HMS.out i h1)
  go_upto_region 62 with (go_at_call 18; refine RC.out.mono ?_; rintro e Y3 ⟨rfl, h23⟩)
  have hCS3 := HC2.out.below h23
  have kc3 : Y3.cell? ⟨kb, 0, none⟩ = some (.int .u8 (key : Int)) := (cell_of_heap hCS3.kbh 0).trans rfl
  have HWO : Hid (∀ X', Below Y3.heap.size Y3 X' → Calls Ybad.prog 15 #[.slice (some ⟨rrb, 0, none⟩) rl rl, .int .i64 (-1)] X' fun e w' => ∃ v, e = .returned v ∧ w'.ownsRow Y3.heap.size 31 5 v rl (recCells lr) ∧ Below X'.heap.size X' w' ∧ Below Y3.heap.size Y3 w') := hide (fun X' hX' => by
    have := without_in (i := -1) hX' hCS3.rec2.1 hCS3.rec2.2 len2 (by omega)
    rw [wo_neg lr rl len2, len2] at this
    exact this)
  refine exp62 (key := key) (clk := xclk) (ab := 0) (i := 0) kc3 ((cell_of_heap hCS3.nbh 0).trans rfl) ((cell_of_heap hCS3.nbh 1).trans rfl) ((cell_of_heap hCS3.nbh 2).trans rfl) (lt_of_heap hCS3.kbh) (lt_of_heap hCS3.nbh) (by omega) HWO ?_
  rintro t342 t343 t344 t345 t346 t347 t348 t349 v32 Y4 ⟨g2, c2, rfl, hrow, h34⟩
  have h13 : Below Y1.heap.size Y1 Y3 := h12.trans (h23.mono h12.size)
  have h14 : Below Y1.heap.size Y1 Y4 := h13.trans (h34.mono h13.size)
  have hig1 := HM.out.2.1
  have hBx := HB1.out.of_block (h14.block bb HB1.out.lt)
  obtain ⟨bs, hbb, u1, u2, u3⟩ := hBx.at_
  have b10 := (cell_of_heap hbb 10).trans u3
  have hall : ∀ e ∈ (er ++ [(⟨gb, gcap, key, xclk, ts, tn⟩ : Ent)]), IdAt Y1 e.blk e.cap e.key := fun e he => by
    rcases List.mem_append.1 he with h | h
    · exact HCS.out.id2 e h
    · obtain rfl := List.mem_singleton.1 h
      exact hig1
  have hmap : (er ++ [(⟨gb, gcap, key, xclk, ts, tn⟩ : Ent)]).map Ent.toRec = lr ++ [⟨key, xclk, ts, tn⟩] := by simp [es2, Ent.toRec]
  have hokA : ∀ r ∈ lr ++ [(⟨key, xclk, ts, tn⟩ : Rec)], 0 ≤ r.n ∧ r.n < 1000000000 := fun r hr => by
    rcases List.mem_append.1 hr with h | h
    · exact hok2 r h
    · obtain rfl := List.mem_singleton.1 h
      exact htn
  have hlenA : (lr ++ [(⟨key, xclk, ts, tn⟩ : Rec)]).length = rl + 1 := by simp [len2]
  have hlenE : (er ++ [(⟨gb, gcap, key, xclk, ts, tn⟩ : Ent)]).length = rl + 1 := by simp [herl]
  obtain ⟨rcs, hrcs⟩ := own_heap hrow
  have HG := hide (And.intro hall (And.intro hmap (And.intro hokA (And.intro hlenA (And.intro hlenE (And.intro hrow (And.intro hrcs (And.intro h14 hig1))))))))
  clear hall hmap hokA hlenA hlenE hrow hrcs h14 hig1 hBx hbb u1 u2 u3 hCS3 HWO RC h13 h34 h23 kc3 kc2 cl2 oz2
  by_cases hov : (Rn : Int) < (rl : Int) + 1
  · have hr1 := HM.out.2.2.1 hov
    obtain ⟨g', c', rfl⟩ := own_some hr1 (by omega)
    have hov' : (Rn : Int) < ((rl + 1 : Nat) : Int) := by omega
    have hc2 : rl + 1 ≤ c2 := (own_spare HG.out.2.2.2.2.2.1).1
    obtain ⟨hc3, hc4, hc5, hc6⟩ : ¬ (c2 - 1 = 0) ∧ ¬ (c2 = 1) ∧ ¬ (1 = c2) ∧ ¬ (c2 ≤ 1) := by omega
    have hc7 : ¬ ((c2 : Int) - 1 = 0) := by omega
    have HR1 := hide hr1
    clear hr1
    go_upto_region 65 with fail
    obtain ⟨hall, hmap, hokA, hlenA, hlenE, hrow, hrcs, h14, hig1⟩ := HG.out
    have hr1 := HR1.out
    have hr4 := own_of_block hr1 (h14.block g' (low_of hr1 g' rfl))
    have SM := hide (same_any (some ⟨g', 0, none⟩) (some ⟨g2, 5, none⟩) rl c' (c2 - 1) ((er ++ [(⟨gb, gcap, key, xclk, ts, tn⟩ : Ent)]).drop 1) ((lr ++ [(⟨key, xclk, ts, tn⟩ : Rec)]).drop 1) Y4 (by omega) (by simp [len2]) (by rw [List.map_drop, hmap]) (fun r hr => hokA r (List.mem_of_mem_drop hr)) (ents_own hr4 (fun e he => (hall e (List.mem_of_mem_drop he)).of_block (h14.block _ (hall e (List.mem_of_mem_drop he)).lt))) (fun _ => ⟨g2, 5, rfl, lt_of_heap hrcs, fun j hj => ?_⟩))
    rotate_left
    · have hj' : j < rl + 1 := by have := hj; simp [len2] at this; omega
      have h1 := recAt_own (R := []) (by rw [List.append_nil]; exact hrow) (j + 1) (by simp [len2] at hj ⊢; omega)
      rw [List.getElem_drop]
      have e1 : (j + 1) * 5 = 5 + j * 5 := by omega
      have e2 : 1 + j = j + 1 := by omega
      simp only [e1] at h1
      simpa only [e2] using h1
    clear hall hmap hokA hlenA hlenE hrow hrcs hr4 hig1
    go_upto_region 67 with (go_at_call 13; refine SM.out.mono ?_; rintro e Y5 ⟨rfl, h45⟩)
    obtain ⟨hall, hmap, hokA, hlenA, hlenE, hrow, hrcs, h14, hig1⟩ := HG.out
    have h15 : Below Y1.heap.size Y1 Y5 := h14.trans (h45.mono h14.size)
    obtain ⟨gcs, hgr⟩ := own_heap hr1
    have hlen : (rl - 1) < (((er ++ [(⟨gb, gcap, key, xclk, ts, tn⟩ : Ent)]).drop 1)).length := by simp [herl]; omega
    have hel := entAt_own (R := []) (by rw [List.append_nil]; exact hr1) (rl - 1) hlen
    have hlast : (((er ++ [(⟨gb, gcap, key, xclk, ts, tn⟩ : Ent)]).drop 1))[(rl - 1)]'hlen = ⟨gb, gcap, key, xclk, ts, tn⟩ := by
      rw [List.getElem_drop, List.getElem_append_right (by omega)]
      simp
    rw [hlast] at hel
    have hel5 := hel.of_block (h15.block g' (lt_of_heap hgr))
    have b105 := (World.cell?_of_block (w := Y4) (a := ⟨bb, 10, none⟩) (h45.block bb (lt_of_cell b10))).trans b10
    have lbb5 : bb < Y5.heap.size := by have := lt_of_cell b105; simpa using this
    refine last67 (j := rl) (jj := (rl - 1)) b105 hel5.c0 hel5.c1 hel5.c2 hel5.c3 hel5.c4 hel5.c5 lbb5 (Nat.lt_of_lt_of_le (lt_of_heap hgr) h15.size) (by omega) (by rw [IntKind.wrap_i64] <;> omega) ?_
    rintro t363 t364 t365 t366 t367 t368 t369 t370 t371 t372 t373 t374 v33 Y6 ⟨b, rfl, hcell, h56⟩
    have h16 : Below Y1.heap.size Y1 Y6 := h15.trans (h56.mono h15.size)
    obtain ⟨ics, hic, _⟩ := hig1.at_
    have pd : ∀ m, (binOp .neq 85 (.pointer (some ⟨gb, 0, none⟩)) (.pointer (some ⟨xb, 0, none⟩))).run Ybad.prog (Y6.drewN m) = .ok (.bool true) (Y6.drewN m) := fun m => ptr_diff _ gb xb hgx ((h16.block gb (lt_of_heap hic)).trans hic) ((h16.block xb (lt_of_heap HCS.out.xbh)).trans HCS.out.xbh)
    have HB := hide (HCS.out.below h16).bel
    clear hel hel5 b105 h16 h15 h14 hlast hrow SM hall hmap hokA hlenA hlenE hrcs hig1 hgr hic hr1 b10
    go_upto_region 68 with fail
    go_quiet (fail)
    have HB' := hide (HB.out.trans (show Below w.heap.size Y6 (Y6.drewN nq) from ⟨rfl, rfl, rfl, Nat.le_refl _, fun _ _ => rfl⟩))
    go_wp2
    go_ret
    exact ⟨rfl, HB'.out⟩
  · have hr1 := HM.out.2.2.2 (by omega)
    obtain ⟨g', c', rfl⟩ := own_some hr1 (by omega)
    have hov' : ¬ (Rn : Int) < ((rl + 1 : Nat) : Int) := by omega
    have HR1 := hide hr1
    clear hr1
    go_upto_region 65 with fail
    obtain ⟨hall, hmap, hokA, hlenA, hlenE, hrow, hrcs, h14, hig1⟩ := HG.out
    have hr1 := HR1.out
    have hr4 := own_of_block hr1 (h14.block g' (low_of hr1 g' rfl))
    have SM := hide (same_any (some ⟨g', 0, none⟩) (some ⟨g2, 0, none⟩) (rl + 1) c' c2 (er ++ [(⟨gb, gcap, key, xclk, ts, tn⟩ : Ent)]) (lr ++ [(⟨key, xclk, ts, tn⟩ : Rec)]) Y4 (by omega) hlenA hmap hokA (ents_own hr4 (fun e he => (hall e he).of_block (h14.block _ (hall e he).lt))) (fun _ => ⟨g2, 0, rfl, lt_of_heap hrcs, fun j hj => ?_⟩))
    rotate_left
    · have hj' : j < rl + 1 := by have := hj; simp [len2] at this; omega
      have h1 := recAt_own (R := []) (by rw [List.append_nil]; exact hrow) j hj
      rwa [Nat.zero_add]
    clear hall hmap hokA hlenA hlenE hrow hrcs hr4 hig1
    go_upto_region 67 with (go_at_call 13; refine SM.out.mono ?_; rintro e Y5 ⟨rfl, h45⟩)
    obtain ⟨hall, hmap, hokA, hlenA, hlenE, hrow, hrcs, h14, hig1⟩ := HG.out
    have h15 : Below Y1.heap.size Y1 Y5 := h14.trans (h45.mono h14.size)
    obtain ⟨gcs, hgr⟩ := own_heap hr1
    have hlen : rl < ((er ++ [(⟨gb, gcap, key, xclk, ts, tn⟩ : Ent)])).length := by simp [herl]
    have hel := entAt_own (R := []) (by rw [List.append_nil]; exact hr1) rl hlen
    have hlast : ((er ++ [(⟨gb, gcap, key, xclk, ts, tn⟩ : Ent)]))[rl]'hlen = ⟨gb, gcap, key, xclk, ts, tn⟩ := by
      rw [List.getElem_append_right (by omega)]
      simp
    rw [hlast] at hel
    have hel5 := hel.of_block (h15.block g' (lt_of_heap hgr))
    have b105 := (World.cell?_of_block (w := Y4) (a := ⟨bb, 10, none⟩) (h45.block bb (lt_of_cell b10))).trans b10
    have lbb5 : bb < Y5.heap.size := by have := lt_of_cell b105; simpa using this
    refine last67 (j := (rl + 1)) (jj := rl) b105 hel5.c0 hel5.c1 hel5.c2 hel5.c3 hel5.c4 hel5.c5 lbb5 (Nat.lt_of_lt_of_le (lt_of_heap hgr) h15.size) (by omega) (by rw [IntKind.wrap_i64] <;> omega) ?_
    rintro t363 t364 t365 t366 t367 t368 t369 t370 t371 t372 t373 t374 v33 Y6 ⟨b, rfl, hcell, h56⟩
    have h16 : Below Y1.heap.size Y1 Y6 := h15.trans (h56.mono h15.size)
    obtain ⟨ics, hic, _⟩ := hig1.at_
    have pd : ∀ m, (binOp .neq 85 (.pointer (some ⟨gb, 0, none⟩)) (.pointer (some ⟨xb, 0, none⟩))).run Ybad.prog (Y6.drewN m) = .ok (.bool true) (Y6.drewN m) := fun m => ptr_diff _ gb xb hgx ((h16.block gb (lt_of_heap hic)).trans hic) ((h16.block xb (lt_of_heap HCS.out.xbh)).trans HCS.out.xbh)
    have HB := hide (HCS.out.below h16).bel
    clear hel hel5 b105 h16 h15 h14 hlast hrow SM hall hmap hokA hlenA hlenE hrcs hig1 hgr hic hr1 b10
    go_upto_region 68 with fail
    go_quiet (fail)
    have HB' := hide (HB.out.trans (show Below w.heap.size Y6 (Y6.drewN nq) from ⟨rfl, rfl, rfl, Nat.le_refl _, fun _ _ => rfl⟩))
    go_wp2
    go_ret
    exact ⟨rfl, HB'.out⟩

end Go.Proofs.YbulkagdqDoor

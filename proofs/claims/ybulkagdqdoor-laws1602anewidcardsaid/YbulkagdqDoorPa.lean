import Derived.Test.YbulkagdqDoorNs
import Derived.Test.YbulkagdqDoorNp
import Derived.BigQuiet
import Derived.LaidEql
namespace Go.Proofs.YbulkagdqDoor
open Go.RowKit
set_option linter.unusedVariables false
set_option maxRecDepth 100000

theorem own_ge {w : World} {base : Nat} {e : TypeId} {size : Nat} {v : Value} {n : Nat} {xs : List Value} (h : w.ownsRow base e size v n xs) : ∀ k, v.ownBlock = some k → base ≤ k := fun k hk => by
  rcases h.2 with ⟨rfl, _⟩ | ⟨g, cap, cur, rfl, h1, _⟩
  · simp [Value.ownBlock] at hk
  · simp [Value.ownBlock] at hk
    omega
theorem wo_neg (l : List Rec) (k : Nat) (h : l.length = k) : wo l (-1) k = l := by
  unfold wo
  rw [if_pos (by omega), ← h]
  simp
theorem neqs_nil (w : World) : (binOp .neq 73 (.slice none 0 0) (.slice none 0 0)).run Ybad.prog w = .ok (.bool false) w := by kernel_rfl
theorem ptr_diff (w : World) (a b : Nat) {ca cb : Array Value} {ta tb : TypeId} (h : a ≠ b) (ha : w.heap[a]? = some (.cells ca ta (0, 0))) (hb : w.heap[b]? = some (.cells cb tb (0, 0))) : (binOp .neq 85 (.pointer (some ⟨a, 0, none⟩)) (.pointer (some ⟨b, 0, none⟩))).run Ybad.prog w = .ok (.bool true) w := by
  obtain ⟨ii, hii85, hsz⟩ := Option.map_eq_some_iff.1 Ybad.inf5x
  have h0 := run_sameAddr_other (P := Ybad.prog) (w := w) (a := ⟨a, 0, none⟩) (b := ⟨b, 0, none⟩) (fun e => h (congrArg Addr.block e)) ha hb
  have h1 : ∀ d : Nat, (Op.equalIn (d + 1) 85 (.pointer (some ⟨a, 0, none⟩)) (.pointer (some ⟨b, 0, none⟩))).run Ybad.prog w = .ok false w := fun d => by
    simp [Op.equalIn, run_underlying Ybad.underlying85, sizeOf, typeInfo, hii85, hsz, h0]
  simp only [binOp]
  simp [Op.equal, Op.maxDepth, h1 9999]

set_option maxHeartbeats 12000000 in
theorem tailB {KK : Act → World → Prop} {w X : World} {kb ab mb cb go gc pb tb bb nb ccb xb rb rrb key : Nat} {aClk m xclk ts tn : Int} {Kn p Rn : Nat} {ping : Bool} {k rl : Nat} {va ra : Option Addr} {vc rc base base2 : Nat} {es er : List Ent} {l lr : List Rec} {ia ja : Option Addr} {ic jc : Nat} {y0 y1 y2 y3 y4 y5 y8 y9 y10 y11 y12 y14 y15 y16 y17 y18 y20 y21 y22 y29 y30 y32 y33 y39 y41 y46 y47 y48 y49 y50 y51 y52 y53 y54 y55 y56 y57 y58 y59 y60 y61 y62 y63 y64 y65 y66 y67 y68 y69 y70 y71 y72 y73 y74 y75 y76 y77 y78 y79 y80 y81 y82 y83 y84 y85 y86 y87 y88 y89 y90 y91 y92 y93 y94 y95 y96 y97 y98 y99 y100 y101 y102 y103 y104 y105 y106 y107 y108 y109 y110 y111 y112 y113 y114 y115 y116 y117 y118 y119 y120 y121 y122 y123 y124 y125 y126 y127 y128 y129 y130 y131 y132 y133 y134 y135 y136 y137 y138 y139 y140 y141 y142 y143 y144 y145 y146 y147 y148 y149 y150 y151 y152 y153 y154 y155 y156 y157 y158 y159 y160 y161 y162 y163 y164 y165 y166 y167 y168 y169 y170 y171 y172 y173 y174 y175 y176 y177 y178 y179 y180 y181 y182 y183 y184 y185 y186 y187 y188 y189 y190 y191 y192 y193 y194 y195 y196 y197 y198 y199 y200 y201 y202 y203 y204 y205 y206 y207 y208 y209 y210 y211 y212 y213 y214 y215 y216 y217 y218 y219 y220 y221 y222 y223 y224 y225 y226 y227 y228 y229 y230 y231 y232 y233 y234 y235 y236 y237 y238 y239 y240 y241 y242 y243 y244 y245 y246 y247 y248 y249 y250 y251 y252 y253 y254 y255 y256 y257 y258 y259 y260 y261 y262 y263 y264 y265 y266 y267 y268 y269 y270 y271 y272 y273 y274 y275 y276 y277 y278 y279 y280 y281 y282 y283 y284 y285 y286 y287 y288 y289 y290 y291 y292 y293 y294 y295 y296 y297 y298 y299 y300 y301 y302 y303 y304 y305 y306 y307 y308 y309 y310 y311 y312 y313 y314 y315 y316 y317 y318 y319 y320 y321 y322 y323 y324 y325 y326 y327 y328 y329 y330 y331 y332 y333 y334 y335 y336 y337 y338 y339 y340 y341 y342 y343 y344 y345 y346 y347 y348 y349 y350 y351 y352 y353 y354 y355 y356 y357 y358 y359 y360 y361 y362 y363 y364 y365 y366 y367 y368 y369 y370 y371 y372 y373 y374 y375 y376 y377 y378 y379 y380 y381 y382 y383 y384 y385 y386 y387 y388 y389 y390 y391 y392 y393 y394 y395 y396 y397 y398 y399 y400 y401 y402 y403 y404 y405 y406 y407 y408 y409 y410 y411 y412 y413 y414 y415 y416 y417 y418 y419 y420 y421 y422 y423 y424 y425 y426 y427 y428 y429 y430 y431 y432 y433 y434 y435 y436 y437 y438 y439 y440 y441 y442 y443 y444 y445 y446 y447 y448 y449 y450 y451 y452 y453 y454 y455 y456 y457 y458 y459 y460 y461 y462 y463 y464 y465 y466 y467 y468 y469 y470 y471 y472 y473 y474 y475 y476 y477 y478 y479 y480 y481 y482 y483 y484 : Value}
    (hNS : NS w X kb ab mb cb go gc pb tb bb nb ccb xb rb rrb key aClk m xclk ts tn Kn p Rn ping k rl va ra vc rc base base2 es er l lr) (hkey : key < 256) (hK8 : Kn ≤ 8) (hk8 : k ≤ 8) (hR3 : Rn ≤ 3) (hp4 : p ≤ 4) (htn : 0 ≤ tn ∧ tn < 1000000000) (hok1 : ∀ r ∈ l, 0 ≤ r.n ∧ r.n < 1000000000) (hok2 : ∀ r ∈ lr, 0 ≤ r.n ∧ r.n < 1000000000) (hkK : k < Kn) (hrl : rl = 0)
    (hKK : ∀ a w1, Code.wp Ybad.prog (afOf Ybad.f4.body 35) (bodyPost Ybad.prog Ybad.f4 (fun e w' => e = Ending.returned (.bool true) ∧ Below w.heap.size w w')) a w1 → KK a w1) :
    Code.wp Ybad.prog (rgOf Ybad.f4.body 35) (Exit.then KK (bodyPost Ybad.prog Ybad.f4 (fun e w' => e = Ending.returned (.bool true) ∧ Below w.heap.size w w'))) { tmps := List.toArray (y0 :: y1 :: y2 :: y3 :: y4 :: y5 :: (.bool ping) :: (.int .u64 xclk) :: y8 :: y9 :: y10 :: y11 :: y12 :: (.pointer (some ⟨kb, 0, none⟩)) :: y14 :: y15 :: y16 :: y17 :: y18 :: (.pointer (some ⟨ab, 0, none⟩)) :: y20 :: y21 :: y22 :: (.int .i64 (Kn : Int)) :: (.int .i64 (Rn : Int)) :: (.int .i64 (p : Int)) :: (.slice ia k ic) :: (.slice ja rl jc) :: (.slice (some ⟨rb, 0, none⟩) k k) :: y29 :: y30 :: (.slice (some ⟨rrb, 0, none⟩) rl rl) :: y32 :: y33 :: (.pointer (some ⟨bb, 0, none⟩)) :: (.pointer (some ⟨mb, 0, none⟩)) :: (.pointer (some ⟨cb, 0, none⟩)) :: (.pointer (some ⟨go, 0, none⟩)) :: (.pointer (some ⟨gc, 0, none⟩)) :: y39 :: (.pointer (some ⟨pb, 0, none⟩)) :: y41 :: (.pointer (some ⟨tb, 0, none⟩)) :: (.pointer (some ⟨nb, 0, none⟩)) :: (.pointer (some ⟨ccb, 0, none⟩)) :: (.slice (some ⟨xb, 0, none⟩) 1 1) :: y46 :: y47 :: y48 :: y49 :: y50 :: y51 :: y52 :: y53 :: y54 :: y55 :: y56 :: y57 :: y58 :: y59 :: y60 :: y61 :: y62 :: y63 :: y64 :: y65 :: y66 :: y67 :: y68 :: y69 :: y70 :: y71 :: y72 :: y73 :: y74 :: y75 :: y76 :: y77 :: y78 :: y79 :: y80 :: y81 :: y82 :: y83 :: y84 :: y85 :: y86 :: y87 :: y88 :: y89 :: y90 :: y91 :: y92 :: y93 :: y94 :: y95 :: y96 :: y97 :: y98 :: y99 :: y100 :: y101 :: y102 :: y103 :: y104 :: y105 :: y106 :: y107 :: y108 :: y109 :: y110 :: y111 :: y112 :: y113 :: y114 :: y115 :: y116 :: y117 :: y118 :: y119 :: y120 :: y121 :: y122 :: y123 :: y124 :: y125 :: y126 :: y127 :: y128 :: y129 :: y130 :: y131 :: y132 :: y133 :: y134 :: y135 :: y136 :: y137 :: y138 :: y139 :: y140 :: y141 :: y142 :: y143 :: y144 :: y145 :: y146 :: y147 :: y148 :: y149 :: y150 :: y151 :: y152 :: y153 :: y154 :: y155 :: y156 :: y157 :: y158 :: y159 :: y160 :: y161 :: y162 :: y163 :: y164 :: y165 :: y166 :: y167 :: y168 :: y169 :: y170 :: y171 :: y172 :: y173 :: y174 :: y175 :: y176 :: y177 :: y178 :: y179 :: y180 :: y181 :: y182 :: y183 :: y184 :: y185 :: y186 :: y187 :: y188 :: y189 :: y190 :: y191 :: y192 :: y193 :: y194 :: y195 :: y196 :: y197 :: y198 :: y199 :: y200 :: y201 :: y202 :: y203 :: y204 :: y205 :: y206 :: y207 :: y208 :: y209 :: y210 :: y211 :: y212 :: y213 :: y214 :: y215 :: y216 :: y217 :: y218 :: y219 :: y220 :: y221 :: y222 :: y223 :: y224 :: y225 :: y226 :: y227 :: y228 :: y229 :: y230 :: y231 :: y232 :: y233 :: y234 :: y235 :: y236 :: y237 :: y238 :: y239 :: y240 :: y241 :: y242 :: y243 :: y244 :: y245 :: y246 :: y247 :: y248 :: y249 :: y250 :: y251 :: y252 :: y253 :: y254 :: y255 :: y256 :: y257 :: y258 :: y259 :: y260 :: y261 :: y262 :: y263 :: y264 :: y265 :: y266 :: y267 :: y268 :: y269 :: y270 :: y271 :: y272 :: y273 :: y274 :: y275 :: y276 :: y277 :: y278 :: y279 :: y280 :: y281 :: y282 :: y283 :: y284 :: y285 :: y286 :: y287 :: y288 :: y289 :: y290 :: y291 :: y292 :: y293 :: y294 :: y295 :: y296 :: y297 :: y298 :: y299 :: y300 :: y301 :: y302 :: y303 :: y304 :: y305 :: y306 :: y307 :: y308 :: y309 :: y310 :: y311 :: y312 :: y313 :: y314 :: y315 :: y316 :: y317 :: y318 :: y319 :: y320 :: y321 :: y322 :: y323 :: y324 :: y325 :: y326 :: y327 :: y328 :: y329 :: y330 :: y331 :: y332 :: y333 :: y334 :: y335 :: y336 :: y337 :: y338 :: y339 :: y340 :: y341 :: y342 :: y343 :: y344 :: y345 :: y346 :: y347 :: y348 :: y349 :: y350 :: y351 :: y352 :: y353 :: y354 :: y355 :: y356 :: y357 :: y358 :: y359 :: y360 :: y361 :: y362 :: y363 :: y364 :: y365 :: y366 :: y367 :: y368 :: y369 :: y370 :: y371 :: y372 :: y373 :: y374 :: y375 :: y376 :: y377 :: y378 :: y379 :: y380 :: y381 :: y382 :: y383 :: y384 :: y385 :: y386 :: y387 :: y388 :: y389 :: y390 :: y391 :: y392 :: y393 :: y394 :: y395 :: y396 :: y397 :: y398 :: y399 :: y400 :: y401 :: y402 :: y403 :: y404 :: y405 :: y406 :: y407 :: y408 :: y409 :: y410 :: y411 :: y412 :: y413 :: y414 :: y415 :: y416 :: y417 :: y418 :: y419 :: y420 :: y421 :: y422 :: y423 :: y424 :: y425 :: y426 :: y427 :: y428 :: y429 :: y430 :: y431 :: y432 :: y433 :: y434 :: y435 :: y436 :: y437 :: y438 :: y439 :: y440 :: y441 :: y442 :: y443 :: y444 :: y445 :: y446 :: y447 :: y448 :: y449 :: y450 :: y451 :: y452 :: y453 :: y454 :: y455 :: y456 :: y457 :: y458 :: y459 :: y460 :: y461 :: y462 :: y463 :: y464 :: y465 :: y466 :: y467 :: y468 :: y469 :: y470 :: y471 :: y472 :: y473 :: y474 :: y475 :: y476 :: y477 :: y478 :: y479 :: y480 :: y481 :: y482 :: y483 :: y484 :: []), defers := [] } X := by
  subst hrl
  obtain ⟨bel, low, arb, tab, buk, own1, id1, es1, len1, own2, id2, es2, len2, rec1, rec1', rec2, rec2', pings, pne, now, con, cne, xid, bases, apart⟩ := hNS
  have c0 : X.cell? ⟨ccb, 0, none⟩ = some (.slice (some ⟨xb, 0, none⟩) 1 1) := (cell_of_heap con 0).trans rfl
  have c1 : X.cell? ⟨ccb, 1, none⟩ = some (.int .u64 xclk) := (cell_of_heap con 1).trans rfl
  have c2 : X.cell? ⟨ccb, 2, none⟩ = some .nilIface := (cell_of_heap con 2).trans rfl
  have d0 : X.cell? ⟨nb, 0, none⟩ = some (.int .u64 tn) := (cell_of_heap now 0).trans rfl
  have d1 : X.cell? ⟨nb, 1, none⟩ = some (.int .i64 ts) := (cell_of_heap now 1).trans rfl
  have d2 : X.cell? ⟨nb, 2, none⟩ = some (.pointer none) := (cell_of_heap now 2).trans rfl
  have hesl : es.length = k := by have := congrArg List.length es1; simpa [len1] using this
  have idx : IdAt X xb 1 key := ⟨⟨_, xid, rfl⟩, Nat.le_refl _⟩
  have PA := hide (placeA tb bb Kn p Rn _ _ _ k 0 xb 1 key xclk ts tn va k vc base es X tab buk own1 (by omega) (by omega) idx (by omega) (by omega) bases.2.1)
  have HKK := hide hKK
  clear hKK
  conv => arg 2; whnf
  go_wp2_with fail
  refine PA.out.mono ?_
  rintro e Y ⟨gb, gcap, v', rfl, hgb, hidg, hbY, hoY, htY, hkY⟩
  unfold outAdd
  go_wp2_with fail
  refine HKK.out _ _ ?_
  conv => arg 2; whnf
  obtain ⟨tcs, htc⟩ := tab.tag
  obtain ⟨bcs, hbc⟩ := buk.tag
  have htag : ∀ (q : Nat) (cs : Array Value) (t : TypeId), X.heap[q]? = some (.cells cs t (0, 0)) → t ≠ 70 → t ≠ 56 → t ≠ 60 → q ∉ (tb :: bb :: (Value.slice va k vc).ownBlock.toList) := fun q cs t hc h1 h2 h3 hx => by
    rcases List.mem_cons.1 hx with e | hx
    · exact heap_ne hc htc h1 e
    · rcases List.mem_cons.1 hx with e | hx
      · exact heap_ne hc hbc h2 e
      · obtain ⟨cs', hc'⟩ := own_tag own1 (k := q) (by simpa using hx)
        exact heap_ne hc hc' h3 rfl
  have hkY1 := hkY.alloc (.cells #[.slice (some ⟨gb, 0, none⟩) 1 gcap, .int .u64 xclk, .nilIface, .bool true, .bool false, .slice none 0 0, .int .u64 0, .nilIface, .slice none 0 0] 75)
  have hoz := heap_alloc_new' Y (.cells #[.slice (some ⟨gb, 0, none⟩) 1 gcap, .int .u64 xclk, .nilIface, .bool true, .bool false, .slice none 0 0, .int .u64 0, .nilIface, .slice none 0 0] 75)
  have hYY : Below Y.heap.size Y (Y.alloc (.cells #[.slice (some ⟨gb, 0, none⟩) 1 gcap, .int .u64 xclk, .nilIface, .bool true, .bool false, .slice none 0 0, .int .u64 0, .nilIface, .slice none 0 0] 75)) := below_al (Below.refl _ _) _
  generalize Y.alloc (.cells #[.slice (some ⟨gb, 0, none⟩) 1 gcap, .int .u64 xclk, .nilIface, .bool true, .bool false, .slice none 0 0, .int .u64 0, .nilIface, .slice none 0 0] 75) = Y1 at hkY1 hoz hYY ⊢
  have pgh := (hkY1.block pb (lt_of_heap pings) (htag _ _ _ pings (by decide) (by decide) (by decide))).trans pings
  have clh := (hkY1.block cb (lt_of_heap arb.h0) (htag _ _ _ arb.h0 (by decide) (by decide) (by decide))).trans arb.h0
  have kbh := (hkY1.block kb (lt_of_heap arb.h4) (htag _ _ _ arb.h4 (by decide) (by decide) (by decide))).trans arb.h4
  have nbh := (hkY1.block nb (lt_of_heap now) (htag _ _ _ now (by decide) (by decide) (by decide))).trans now
  have xbh := (hkY1.block xb (lt_of_heap xid) (htag _ _ _ xid (by decide) (by decide) (by decide))).trans xid
  obtain ⟨rcs, hrc⟩ := rec1
  have rbe := hkY1.block rb (lt_of_heap hrc) (htag _ _ _ hrc (by decide) (by decide) (by decide))
  have rbl : rb < Y1.heap.size := lt_of_heap (rbe.trans hrc)
  have rec1Y : ∀ t (h : t < l.length), RecAt Y1 rb (0 + t * 5) l[t] := fun t h => (rec1' t h).of_block rbe
  have hB1 := hbY.of_block (hYY.block bb hbY.lt)
  have hT1 := htY.of_block (hYY.block tb htY.lt)
  have hi1 := hidg.of_block (hYY.block gb hidg.lt)
  have ids1 : ∀ e ∈ es, IdAt Y1 e.blk e.cap e.key := fun e he => (id1 e he).of_block (by
    obtain ⟨cs, hc, _⟩ := (id1 e he).at_
    exact hkY1.block _ (lt_of_heap hc) (htag _ cs 5 hc (by decide) (by decide) (by decide)))
  obtain ⟨gr, cr, rfl⟩ := own_some hoY (by omega)
  have ho1 := own_of_block hoY (hYY.block gr (low_of hoY gr rfl))
  have bel1 : Below w.heap.size w Y1 := bel.trans (hkY1.below bel.size (fun x hx => by
    rcases List.mem_cons.1 hx with e | hx
    · omega
    · rcases List.mem_cons.1 hx with e | hx
      · omega
      · have := own_ge own1 x (by simpa using hx)
        omega))
  have hgx : gb ≠ xb := by have := lt_of_heap xid; omega
  have HH := hide (And.intro rec1Y (And.intro hi1 (And.intro ids1 (And.intro ho1 (And.intro bel1 (And.intro nbh xbh))))))
  clear hkY1 hkY hoY hbY htY hidg hYY htag htc hbc tab buk own1 id1 own2 id2 rec1' rec2 rec2' pings now con xid arb rec1Y hi1 ids1 ho1 bel1 hrc rbe c0 c1 c2 d0 d1 d2 PA bel idx
  obtain ⟨bs, hbb, u1, u2, u3⟩ := hB1.at_
  obtain ⟨tcs, ht, t1, t2, t3, t4, t5, t6⟩ := hT1.at_
  have b6 := (cell_of_heap hbb 6).trans u1
  have b9 := (cell_of_heap hbb 9).trans u2
  have b10 := (cell_of_heap hbb 10).trans u3
  have t32 := (cell_of_heap ht 32).trans t6
  have pg : Y1.cell? ⟨pb, 0, none⟩ = some (.int .i64 0) := (cell_of_heap pgh 0).trans rfl
  have cl : Y1.cell? ⟨cb, 0, none⟩ = some (.int .i64 0) := (cell_of_heap clh 0).trans rfl
  have kc : Y1.cell? ⟨kb, 0, none⟩ = some (.int .u8 (key : Int)) := (cell_of_heap kbh 0).trans rfl
  have oz := cell_of_heap hoz
  simp at oz
  have lbb := lt_of_heap hbb
  have ltb := lt_of_heap ht
  have lkb := lt_of_heap kbh
  have lnb := lt_of_heap nbh
  have nn := neqs_nil
  have hkK' : (k : Int) < (Kn : Int) := by omega
  clear u1 u2 u3 t1 t2 t3 t4 t5 t6
  go_upto_region 38 with (go_at_call 14; refine (aload bb 6 0 _ b6).mono ?_; rintro e w' ⟨rfl, hw⟩; obtain rfl := hw.symm)
  have BQ := hide (beq_new Y1 gb gcap key Y1.heap.size rfl hkey HH.out.2.1.cell)
  go_upto_region 41 with (go_at_call 11; refine BQ.out.mono ?_; rintro e w' ⟨rfl, hw⟩; obtain rfl := hw.symm)
  have h12 : Below Y1.heap.size Y1 (Y1.alloc (.cells #[.int .u8 (key : Int)] 5)) := below_al (Below.refl _ _) _
  generalize Y1.alloc (.cells #[.int .u8 (key : Int)] 5) = Y2 at h12 ⊢
  have t32' := (World.cell?_of_block (w := Y1) (a := ⟨tb, 32, none⟩) (h12.block tb ltb)).trans t32
  have b10' := (World.cell?_of_block (w := Y1) (a := ⟨bb, 10, none⟩) (h12.block bb lbb)).trans b10
  have b9' := (World.cell?_of_block (w := Y1) (a := ⟨bb, 9, none⟩) (h12.block bb lbb)).trans b9
  have kc' := (World.cell?_of_block (w := Y1) (a := ⟨kb, 0, none⟩) (h12.block kb lkb)).trans kc
  clear oz hoz b6 b10 t32 pg cl BQ hB1 hT1 hbb ht pgh clh kbh
  go_upto_region 43 with fail
  obtain ⟨rec1Y, hi1, ids1, ho1, bel1, nbh, xbh⟩ := HH.out
  have nb2 := (h12.block nb lnb).trans nbh
  have HWO : Hid (∀ X', Below Y2.heap.size Y2 X' → Calls Ybad.prog 15 #[.slice (some ⟨rb, 0, none⟩) k k, .int .i64 (-1)] X' fun e w' => ∃ v, e = .returned v ∧ w'.ownsRow Y2.heap.size 31 5 v k (recCells l) ∧ Below X'.heap.size X' w' ∧ Below Y2.heap.size Y2 w') := hide (fun X' hX' => by
    have := without_in (i := -1) hX' (Nat.lt_of_lt_of_le rbl h12.size) (fun t h => (rec1Y t h).of_block (h12.block rb rbl)) len1 (by omega)
    rw [wo_neg l k len1, len1] at this
    exact this)
  refine exp43 (key := key) (clk := xclk) (ab := 0) (i := 0) kc' ((cell_of_heap nb2 0).trans rfl) ((cell_of_heap nb2 1).trans rfl) ((cell_of_heap nb2 2).trans rfl) (Nat.lt_of_lt_of_le lkb h12.size) (lt_of_heap nb2) (by omega) HWO ?_
  rintro t237 t238 t239 t240 t241 t242 t243 t244 v32 Y3 ⟨g2, c2, rfl, hrow, h23⟩
  have h13 : Below Y1.heap.size Y1 Y3 := h12.trans (h23.mono h12.size)
  have SM := hide (same_own (X := Y1) (X' := Y3) ho1 (fun e he => by
    rcases List.mem_append.1 he with h | h
    · exact ids1 e h
    · obtain rfl := List.mem_singleton.1 h
      exact hi1) h13 hrow (by simp [es1, Ent.toRec]) (by simp [len1]) (by omega) (fun r hr => by
    rcases List.mem_append.1 hr with h | h
    · exact hok1 r h
    · obtain rfl := List.mem_singleton.1 h
      exact htn))
  have b9'' := (World.cell?_of_block (w := Y1) (a := ⟨bb, 9, none⟩) (h13.block bb lbb)).trans b9
  clear b9' b10' t32' kc' HWO nb2 h12 h23
  go_upto_region 46 with (go_at_call 13; refine SM.out.mono ?_; rintro e Y4 ⟨rfl, h34⟩)
  have h14 : Below Y1.heap.size Y1 Y4 := h13.trans (h34.mono h13.size)
  obtain ⟨gcs, hgr⟩ := own_heap ho1
  have hlen : k < (es ++ [(⟨gb, gcap, key, xclk, ts, tn⟩ : Ent)]).length := by simp; omega
  have hel := entAt_own (R := []) (by rw [List.append_nil]; exact ho1) k hlen
  have hlast : (es ++ [(⟨gb, gcap, key, xclk, ts, tn⟩ : Ent)])[k]'hlen = ⟨gb, gcap, key, xclk, ts, tn⟩ := by
    rw [List.getElem_append_right (by omega)]
    simp
  rw [hlast] at hel
  have hel4 := hel.of_block (h14.block gr (lt_of_heap hgr))
  have b94 := (World.cell?_of_block (w := Y1) (a := ⟨bb, 9, none⟩) (h14.block bb lbb)).trans b9
  refine last46 (j := k + 1) (jj := k) b94 hel4.c0 hel4.c1 hel4.c2 hel4.c3 hel4.c4 hel4.c5 (Nat.lt_of_lt_of_le lbb h14.size) (Nat.lt_of_lt_of_le (lt_of_heap hgr) h14.size) (by omega) (by simp [IntKind.wrap, IntKind.bits, IntKind.signed]; omega) ?_
  rintro t252 t253 t254 t255 t256 t257 t258 t259 t260 t261 t262 t263 v33 Y5 ⟨b, rfl, hcell, h45⟩
  have h15 : Below Y1.heap.size Y1 Y5 := h14.trans (h45.mono h14.size)
  obtain ⟨ics, hic, _⟩ := hi1.at_
  have pd : ∀ m, (binOp .neq 85 (.pointer (some ⟨gb, 0, none⟩)) (.pointer (some ⟨xb, 0, none⟩))).run Ybad.prog (Y5.drewN m) = .ok (.bool true) (Y5.drewN m) := fun m => ptr_diff _ gb xb hgx ((h15.block gb (lt_of_heap hic)).trans hic) ((h15.block xb (lt_of_heap xbh)).trans xbh)
  have HB := hide (bel1.trans (h15.mono bel1.size))
  clear hel hel4 b94 h15 h14 h13 hlast hrow SM ids1 ho1 hi1 rec1Y bel1 HH nbh xbh hgr hic
  go_upto_region 47 with fail
  go_quiet (fail)
  have HB' := hide (HB.out.trans (show Below w.heap.size Y5 (Y5.drewN nq) from ⟨rfl, rfl, rfl, Nat.le_refl _, fun _ _ => rfl⟩))
  go_wp2
  go_ret
  exact ⟨rfl, HB'.out⟩

end Go.Proofs.YbulkagdqDoor

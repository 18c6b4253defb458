import Derived.Test.YbulkagfuFmtH7
namespace Go.Proofs.YbulkagfuFmt
open Go.RowKit Go.WideMaps Go.Maps Go.Extern.Stop Go.Stop Go.Extern Go.MuLone
set_option linter.unusedVariables false
set_option maxRecDepth 100000

theorem own_cells {w : World} {base : Nat} {v : Value} {xs : List Int} (h : w.ownsRow base 3 1 v xs.length (xs.map (Value.int .i64))) :
    ∃ va cap, v = .slice va xs.length cap ∧ ∀ s x, xs[s]? = some x → ∃ g, va = some ⟨g, 0, none⟩ ∧ w.cell? ⟨g, s, none⟩ = some (.int .i64 x) := by
  rcases h.2 with ⟨rfl, h0⟩ | ⟨g, cap, cur, rfl, _, hg, _, _, _, ht⟩
  · rw [h0]
    refine ⟨none, 0, rfl, fun s x hx => ?_⟩
    rw [List.length_eq_zero_iff.1 h0] at hx
    simp at hx
  · refine ⟨some ⟨g, 0, none⟩, cap, rfl, fun s x hx => ⟨g, rfl, ?_⟩⟩
    rw [cell_at hg s]
    have h1 : (cur.toList.take (xs.length * 1))[s]? = some (.int .i64 x) := by rw [ht]; simp [hx]
    have hs : s < xs.length := (List.getElem?_eq_some_iff.1 hx).1
    rw [List.getElem?_take, if_pos (by omega), Array.getElem?_toList] at h1
    exact h1
theorem Only.trans {S : Nat → Prop} {a b c : World} (h : Only S a b) (k : Only S b c) : Only S a c :=
  ⟨k.os.trans h.os, k.tape.trans h.tape, k.output.trans h.output, k.size.trans h.size, fun x hx => (k.block x hx).trans (h.block x hx)⟩
theorem TF_at (lens : Int) (i j s : Nat) (h : s < lN lens i j) : (TF lens i j)[s]? = some (valI i j s) := by
  simp [TF, h]

set_option maxHeartbeats 8000000 in
theorem loop6 {QQ : Exit → Act → World → Prop} {i n c base r mB kB : Nat} {marks lens m wt : Int} {mk : Nat → Bool} {T : Nat → List Int} {B : Nat → Option Nat} {w : World} {y0 y1 y2 y6 y7 y8 y9 y10 y11 y12 y14 y15 y16 y17 y18 y19 y20 y21 y22 y23 y24 y25 y26 y27 y29 y30 y35 y36 y37 y38 y39 y40 y41 y42 y43 y44 y45 y46 y47 y48 y49 y50 y51 y52 y53 y54 y55 y56 y57 y58 y59 y60 y61 y62 y63 y64 y65 y66 y67 y68 y69 y70 y71 y72 y73 y74 y75 y76 y77 y78 y79 y80 y81 y82 y83 y84 y85 y86 y87 y88 y89 y90 y91 y92 y93 y94 y95 y96 y97 y98 y99 y100 y101 y102 y103 y104 y105 y106 y107 y108 y109 y110 y111 y112 y113 y114 y115 y116 y117 y118 y119 y120 y121 y122 y123 y124 y125 y126 y127 y128 y129 y130 y131 y132 y133 y134 y135 y136 y137 y138 y139 y140 y141 y142 y143 y144 y145 y146 y147 y148 y149 y150 y151 y152 y153 y154 y155 y156 y157 y158 y159 y160 y161 y162 y163 y164 y165 y166 y167 y168 y169 y170 y171 y172 y173 y174 y175 y176 y177 y178 y179 y180 y181 y182 y183 y184 y185 y186 y187 y188 y189 y190 y191 y192 y193 y194 y195 y196 y197 y198 y199 y200 y201 y202 y203 y204 y205 y206 y207 y208 y209 y210 y211 y212 y213 y214 y215 y216 y217 y218 y219 y220 y221 y222 y223 y224 y225 y226 y227 y228 y229 y230 y231 y232 y233 y234 y235 y236 y237 y238 y239 y240 y241 y242 y243 y244 y245 y246 y247 y248 y249 y250 y251 y252 y253 y254 y255 y256 y257 y258 y259 y260 y261 y262 y263 y264 y265 y266 y267 y268 y269 y270 y271 y272 y273 y274 y275 y276 y277 y278 y279 y280 y281 y282 y283 y284 y285 y286 y287 y288 y289 : Value}
    (hi : i < 4) (hn : n ≤ 4) (hc : c ≤ n) (hm0 : 0 ≤ marks) (hm1 : marks < 18446744073709551616) (hl0 : 0 ≤ lens) (hl1 : lens < 18446744073709551616)
    (hrec : RecAt w base r mB kB n mk wt T B) (hmk : ∀ j, j < n → mk j = mkF marks i j) (hT : ∀ j, j < n → T j = if j = c ∧ mkF marks i j = false then TF lens i j ++ [m] else TF lens i j)
    (hK : ∀ (t12 t34 t35 t36 t37 t38 t39 t40 t41 t200 t201 t202 t203 t204 t205 t206 t207 t208 t209 t210 t211 t212 t213 t214 t215 t216 t217 t218 t219 t220 t221 t222 t223 t224 t225 t226 t227 t228 t229 t230 t231 t232 t233 t234 t235 t236 t237 t238 t239 t240 t241 t242 t243 t244 t245 t246 t247 t248 t249 t250 t251 t252 t253 t254 t255 t256 t257 t258 t259 t260 t261 t262 t263 t264 t265 t266 t267 t268 t269 t270 t271 t272 t273 t274 t275 t276 t277 t278 t279 t280 t281 t282 t283 : Value) (wx : World), Only (fun _ => False) w wx → QQ (.exit 10) { tmps := List.toArray (y0 :: y1 :: y2 :: (.int .u64 marks) :: (.int .u64 lens) :: (.int .i64 m) :: y6 :: y7 :: y8 :: y9 :: y10 :: y11 :: (t12) :: (.int .i64 (n : Int)) :: y14 :: y15 :: y16 :: y17 :: y18 :: y19 :: y20 :: y21 :: y22 :: y23 :: y24 :: y25 :: y26 :: y27 :: (.int .i64 (c : Int)) :: y29 :: y30 :: (.int .i64 (i : Int)) :: (.pointer (some ⟨r, 0, none⟩)) :: (.int .i64 (wtF marks i n : Nat)) :: (t34) :: (t35) :: (t36) :: (t37) :: (t38) :: (t39) :: (t40) :: (t41) :: y42 :: y43 :: y44 :: y45 :: y46 :: y47 :: y48 :: y49 :: y50 :: y51 :: y52 :: y53 :: y54 :: y55 :: y56 :: y57 :: y58 :: y59 :: y60 :: y61 :: y62 :: y63 :: y64 :: y65 :: y66 :: y67 :: y68 :: y69 :: y70 :: y71 :: y72 :: y73 :: y74 :: y75 :: y76 :: y77 :: y78 :: y79 :: y80 :: y81 :: y82 :: y83 :: y84 :: y85 :: y86 :: y87 :: y88 :: y89 :: y90 :: y91 :: y92 :: y93 :: y94 :: y95 :: y96 :: y97 :: y98 :: y99 :: y100 :: y101 :: y102 :: y103 :: y104 :: y105 :: y106 :: y107 :: y108 :: y109 :: y110 :: y111 :: y112 :: y113 :: y114 :: y115 :: y116 :: y117 :: y118 :: y119 :: y120 :: y121 :: y122 :: y123 :: y124 :: y125 :: y126 :: y127 :: y128 :: y129 :: y130 :: y131 :: y132 :: y133 :: y134 :: y135 :: y136 :: y137 :: y138 :: y139 :: y140 :: y141 :: y142 :: y143 :: y144 :: y145 :: y146 :: y147 :: y148 :: y149 :: y150 :: y151 :: y152 :: y153 :: y154 :: y155 :: y156 :: y157 :: y158 :: y159 :: y160 :: y161 :: y162 :: y163 :: y164 :: y165 :: y166 :: y167 :: y168 :: y169 :: y170 :: y171 :: y172 :: y173 :: y174 :: y175 :: y176 :: y177 :: y178 :: y179 :: y180 :: y181 :: y182 :: y183 :: y184 :: y185 :: y186 :: y187 :: y188 :: y189 :: y190 :: y191 :: y192 :: y193 :: y194 :: y195 :: y196 :: y197 :: y198 :: y199 :: (t200) :: (t201) :: (t202) :: (t203) :: (t204) :: (t205) :: (t206) :: (t207) :: (t208) :: (t209) :: (t210) :: (t211) :: (t212) :: (t213) :: (t214) :: (t215) :: (t216) :: (t217) :: (t218) :: (t219) :: (t220) :: (t221) :: (t222) :: (t223) :: (t224) :: (t225) :: (t226) :: (t227) :: (t228) :: (t229) :: (t230) :: (t231) :: (t232) :: (t233) :: (t234) :: (t235) :: (t236) :: (t237) :: (t238) :: (t239) :: (t240) :: (t241) :: (t242) :: (t243) :: (t244) :: (t245) :: (t246) :: (t247) :: (t248) :: (t249) :: (t250) :: (t251) :: (t252) :: (t253) :: (t254) :: (t255) :: (t256) :: (t257) :: (t258) :: (t259) :: (t260) :: (t261) :: (t262) :: (t263) :: (t264) :: (t265) :: (t266) :: (t267) :: (t268) :: (t269) :: (t270) :: (t271) :: (t272) :: (t273) :: (t274) :: (t275) :: (t276) :: (t277) :: (t278) :: (t279) :: (t280) :: (t281) :: (t282) :: (t283) :: y284 :: y285 :: y286 :: y287 :: y288 :: y289 :: []), defers := [] } wx) :
    Code.wp Ybaf.prog (lpOf Ybaf.f3.body 5) QQ { tmps := List.toArray (y0 :: y1 :: y2 :: (.int .u64 marks) :: (.int .u64 lens) :: (.int .i64 m) :: y6 :: y7 :: y8 :: y9 :: y10 :: y11 :: y12 :: (.int .i64 (n : Int)) :: y14 :: y15 :: y16 :: y17 :: y18 :: y19 :: y20 :: y21 :: y22 :: y23 :: y24 :: y25 :: y26 :: y27 :: (.int .i64 (c : Int)) :: y29 :: y30 :: (.int .i64 (i : Int)) :: (.pointer (some ⟨r, 0, none⟩)) :: (.int .i64 0) :: (.int .i64 0) :: y35 :: y36 :: y37 :: y38 :: y39 :: y40 :: y41 :: y42 :: y43 :: y44 :: y45 :: y46 :: y47 :: y48 :: y49 :: y50 :: y51 :: y52 :: y53 :: y54 :: y55 :: y56 :: y57 :: y58 :: y59 :: y60 :: y61 :: y62 :: y63 :: y64 :: y65 :: y66 :: y67 :: y68 :: y69 :: y70 :: y71 :: y72 :: y73 :: y74 :: y75 :: y76 :: y77 :: y78 :: y79 :: y80 :: y81 :: y82 :: y83 :: y84 :: y85 :: y86 :: y87 :: y88 :: y89 :: y90 :: y91 :: y92 :: y93 :: y94 :: y95 :: y96 :: y97 :: y98 :: y99 :: y100 :: y101 :: y102 :: y103 :: y104 :: y105 :: y106 :: y107 :: y108 :: y109 :: y110 :: y111 :: y112 :: y113 :: y114 :: y115 :: y116 :: y117 :: y118 :: y119 :: y120 :: y121 :: y122 :: y123 :: y124 :: y125 :: y126 :: y127 :: y128 :: y129 :: y130 :: y131 :: y132 :: y133 :: y134 :: y135 :: y136 :: y137 :: y138 :: y139 :: y140 :: y141 :: y142 :: y143 :: y144 :: y145 :: y146 :: y147 :: y148 :: y149 :: y150 :: y151 :: y152 :: y153 :: y154 :: y155 :: y156 :: y157 :: y158 :: y159 :: y160 :: y161 :: y162 :: y163 :: y164 :: y165 :: y166 :: y167 :: y168 :: y169 :: y170 :: y171 :: y172 :: y173 :: y174 :: y175 :: y176 :: y177 :: y178 :: y179 :: y180 :: y181 :: y182 :: y183 :: y184 :: y185 :: y186 :: y187 :: y188 :: y189 :: y190 :: y191 :: y192 :: y193 :: y194 :: y195 :: y196 :: y197 :: y198 :: y199 :: y200 :: y201 :: y202 :: y203 :: y204 :: y205 :: y206 :: y207 :: y208 :: y209 :: y210 :: y211 :: y212 :: y213 :: y214 :: y215 :: y216 :: y217 :: y218 :: y219 :: y220 :: y221 :: y222 :: y223 :: y224 :: y225 :: y226 :: y227 :: y228 :: y229 :: y230 :: y231 :: y232 :: y233 :: y234 :: y235 :: y236 :: y237 :: y238 :: y239 :: y240 :: y241 :: y242 :: y243 :: y244 :: y245 :: y246 :: y247 :: y248 :: y249 :: y250 :: y251 :: y252 :: y253 :: y254 :: y255 :: y256 :: y257 :: y258 :: y259 :: y260 :: y261 :: y262 :: y263 :: y264 :: y265 :: y266 :: y267 :: y268 :: y269 :: y270 :: y271 :: y272 :: y273 :: y274 :: y275 :: y276 :: y277 :: y278 :: y279 :: y280 :: y281 :: y282 :: y283 :: y284 :: y285 :: y286 :: y287 :: y288 :: y289 :: []), defers := [] } w := by
  have HK := hide hK
  clear hK
  conv => arg 2; whnf
  go_loopw [33, 34] (fun v u wx => ∃ j : Nat, j ≤ n ∧ v = .int .i64 (wtF marks i j : Nat) ∧ u = .int .i64 (j : Int) ∧ Only (fun _ => False) w wx) (fun v u _ => n - (intOf u).toNat)
  case atStart => exact ⟨0, by omega, by simp [wtF], rfl, Only.refl _ _⟩
  case round =>
    obtain ⟨j, hj, rfl, rfl, h1⟩ := hrel
    by_cases hjn : j < n
    · have hjn' : (j : Int) < (n : Int) := by omega
      have hR : RecAt wr base r mB kB n mk wt T B := hrec.same (fun k _ => h1.block k (fun h => h))
      obtain ⟨ks, hk1, hk2⟩ := hR.mrk
      obtain ⟨ms, hm1', hm2'⟩ := hR.msg
      obtain ⟨v0, e0, o0, _⟩ := hm2' j hjn
      obtain ⟨va, cap, rfl, hcell⟩ := own_cells o0
      have c1 := (cell_at hR.self 2).trans rfl
      have c2 := (cell_at hk1 j).trans (hk2 j hjn)
      have c3 := (cell_at hR.self 1).trans rfl
      have c4 := (cell_at hm1' j).trans e0
      rw [hmk j hjn] at c2
      have hTj := hT j hjn
      have hwle := wtF_le marks i j
      have H1 := hide h1
      have HC := hide hcell
      have HT := hide hTj
      clear hT hmk
      clear h1 hcell hTj hm1' hm2' hk1 hk2 hR e0 o0
      go_upto_region 55 with fail
      have hb : (bits BinOp.and IntKind.u64 (marks / 2 ^ (i * 4 + j)) 1 == 1) = mkF marks i j := rfl
      rw [hb]
      clear hb
      cases hmj : mkF marks i j
      · rw [hmj] at c2
        have hws : wtF marks i (j + 1) = wtF marks i j + 1 := by simp [wtF, hmj]
        go_upto_region 60 with fail
        by_cases hjc : j = c
        · subst hjc
          have hcn : (j : Int) < (n : Int) := by omega
          have hl : bits BinOp.and IntKind.u64 (lens / 2 ^ (2 * (i * 4 + j))) 3 = (lN lens i j : Int) := lN_eq lens i j
          have hl3 := lN_le lens i j
          rw [hl]
          have hl' : wrap64 (lN lens i j : Int) = (lN lens i j : Int) := by unfold wrap64; omega
          rw [hl']
          clear hl hl'
          have hTj := HT.out
          rw [if_pos ⟨rfl, hmj⟩] at hTj
          have hTL : (T j).length = lN lens i j + 1 := by rw [hTj]; simp [TF_len]
          have hTL' : ((T j).length : Int) = (lN lens i j : Int) + 1 := by omega
          obtain ⟨g, rfl, clast⟩ := HC.out (lN lens i j) m (by rw [hTj, ← TF_len, List.getElem?_append_right (Nat.le_refl _)]; simp)
          have hrow : ∀ s, s < lN lens i j → ∃ g', some (⟨g, 0, none⟩ : Addr) = some ⟨g', 0, none⟩ ∧ wr.cell? ⟨g', s, none⟩ = some (.int .i64 (valI i j s)) := fun s hs => HC.out s _ (by rw [hTj, List.getElem?_append_left (by rw [TF_len]; exact hs)]; exact TF_at lens i j s hs)
          have HR := hide hrow
          clear hrow hTj
          go_upto_region 68 with fail
          refine loop7 (i := i) (j := j) (l := lN lens i j) (by omega) (by omega) hl3 (by omega) HR.out ?_
          intro t12 t41 t261 t262 t263 t264 t265 t266 t267 t268 t269 t270 t271 t272 t273 t274 wx hO
          have clast' := (hO.cell ⟨g, lN lens i j, none⟩).trans clast
          have hlt' : (lN lens i j : Int) < ((T j).length : Int) := by omega
          have KO := hide (H1.out.trans hO)
          clear hO H1
          go_wp2
          go_roundw
          case rel => exact ⟨j + 1, by omega, by simp [hws], by simp, KO.out⟩
          case measure => simp [intOf]; omega

        · have hjc' : ¬ (j : Int) = (c : Int) := by omega
          by_cases hcn0 : c < n
          · have hcn : (c : Int) < (n : Int) := by omega
            have hl : bits BinOp.and IntKind.u64 (lens / 2 ^ (2 * (i * 4 + j))) 3 = (lN lens i j : Int) := lN_eq lens i j
            have hl3 := lN_le lens i j
            rw [hl]
            have hl' : wrap64 (lN lens i j : Int) = (lN lens i j : Int) := by unfold wrap64; omega
            rw [hl']
            clear hl hl'
            have hTj := HT.out
            rw [if_neg (by rintro ⟨h1', h2'⟩; first | exact hjc h1' | (rw [hmj] at h2'; cases h2'))] at hTj
            have hTL : (T j).length = lN lens i j := by rw [hTj]; exact TF_len lens i j
            have hTL' : ((T j).length : Int) = (lN lens i j : Int) := by omega
            have hrow : ∀ s, s < lN lens i j → ∃ g', va = some ⟨g', 0, none⟩ ∧ wr.cell? ⟨g', s, none⟩ = some (.int .i64 (valI i j s)) := fun s hs => HC.out s _ (by rw [hTj]; exact TF_at lens i j s hs)
            have HR := hide hrow
            clear hrow hTj
            go_upto_region 68 with fail
            refine loop7 (i := i) (j := j) (l := lN lens i j) (by omega) (by omega) hl3 (by omega) HR.out ?_
            intro t12 t41 t261 t262 t263 t264 t265 t266 t267 t268 t269 t270 t271 t272 t273 t274 wx hO
            have KO := hide (H1.out.trans hO)
            clear hO H1
            go_wp2
            go_roundw
            case rel => exact ⟨j + 1, by omega, by simp [hws], by simp, KO.out⟩
            case measure => simp [intOf]; omega

          · have hcn : ¬ (c : Int) < (n : Int) := by omega
            have hl : bits BinOp.and IntKind.u64 (lens / 2 ^ (2 * (i * 4 + j))) 3 = (lN lens i j : Int) := lN_eq lens i j
            have hl3 := lN_le lens i j
            rw [hl]
            have hl' : wrap64 (lN lens i j : Int) = (lN lens i j : Int) := by unfold wrap64; omega
            rw [hl']
            clear hl hl'
            have hTj := HT.out
            rw [if_neg (by rintro ⟨h1', h2'⟩; first | exact hjc h1' | (rw [hmj] at h2'; cases h2'))] at hTj
            have hTL : (T j).length = lN lens i j := by rw [hTj]; exact TF_len lens i j
            have hTL' : ((T j).length : Int) = (lN lens i j : Int) := by omega
            have hrow : ∀ s, s < lN lens i j → ∃ g', va = some ⟨g', 0, none⟩ ∧ wr.cell? ⟨g', s, none⟩ = some (.int .i64 (valI i j s)) := fun s hs => HC.out s _ (by rw [hTj]; exact TF_at lens i j s hs)
            have HR := hide hrow
            clear hrow hTj
            go_upto_region 68 with fail
            refine loop7 (i := i) (j := j) (l := lN lens i j) (by omega) (by omega) hl3 (by omega) HR.out ?_
            intro t12 t41 t261 t262 t263 t264 t265 t266 t267 t268 t269 t270 t271 t272 t273 t274 wx hO
            have KO := hide (H1.out.trans hO)
            clear hO H1
            go_wp2
            go_roundw
            case rel => exact ⟨j + 1, by omega, by simp [hws], by simp, KO.out⟩
            case measure => simp [intOf]; omega

      · rw [hmj] at c2
        have hws : wtF marks i (j + 1) = wtF marks i j := by simp [wtF, hmj]
        go_upto_region 60 with fail
        by_cases hjc : j = c
        · subst hjc
          have hcn : (j : Int) < (n : Int) := by omega
          have hl : bits BinOp.and IntKind.u64 (lens / 2 ^ (2 * (i * 4 + j))) 3 = (lN lens i j : Int) := lN_eq lens i j
          have hl3 := lN_le lens i j
          rw [hl]
          have hl' : wrap64 (lN lens i j : Int) = (lN lens i j : Int) := by unfold wrap64; omega
          rw [hl']
          clear hl hl'
          have hTj := HT.out
          rw [if_neg (by rintro ⟨h1', h2'⟩; first | exact hjc h1' | (rw [hmj] at h2'; cases h2'))] at hTj
          have hTL : (T j).length = lN lens i j := by rw [hTj]; exact TF_len lens i j
          have hTL' : ((T j).length : Int) = (lN lens i j : Int) := by omega
          have hrow : ∀ s, s < lN lens i j → ∃ g', va = some ⟨g', 0, none⟩ ∧ wr.cell? ⟨g', s, none⟩ = some (.int .i64 (valI i j s)) := fun s hs => HC.out s _ (by rw [hTj]; exact TF_at lens i j s hs)
          have HR := hide hrow
          clear hrow hTj
          go_upto_region 68 with fail
          refine loop7 (i := i) (j := j) (l := lN lens i j) (by omega) (by omega) hl3 (by omega) HR.out ?_
          intro t12 t41 t261 t262 t263 t264 t265 t266 t267 t268 t269 t270 t271 t272 t273 t274 wx hO
          have KO := hide (H1.out.trans hO)
          clear hO H1
          go_wp2
          go_roundw
          case rel => exact ⟨j + 1, by omega, by simp [hws], by simp, KO.out⟩
          case measure => simp [intOf]; omega

        · have hjc' : ¬ (j : Int) = (c : Int) := by omega
          by_cases hcn0 : c < n
          · have hcn : (c : Int) < (n : Int) := by omega
            have hl : bits BinOp.and IntKind.u64 (lens / 2 ^ (2 * (i * 4 + j))) 3 = (lN lens i j : Int) := lN_eq lens i j
            have hl3 := lN_le lens i j
            rw [hl]
            have hl' : wrap64 (lN lens i j : Int) = (lN lens i j : Int) := by unfold wrap64; omega
            rw [hl']
            clear hl hl'
            have hTj := HT.out
            rw [if_neg (by rintro ⟨h1', h2'⟩; first | exact hjc h1' | (rw [hmj] at h2'; cases h2'))] at hTj
            have hTL : (T j).length = lN lens i j := by rw [hTj]; exact TF_len lens i j
            have hTL' : ((T j).length : Int) = (lN lens i j : Int) := by omega
            have hrow : ∀ s, s < lN lens i j → ∃ g', va = some ⟨g', 0, none⟩ ∧ wr.cell? ⟨g', s, none⟩ = some (.int .i64 (valI i j s)) := fun s hs => HC.out s _ (by rw [hTj]; exact TF_at lens i j s hs)
            have HR := hide hrow
            clear hrow hTj
            go_upto_region 68 with fail
            refine loop7 (i := i) (j := j) (l := lN lens i j) (by omega) (by omega) hl3 (by omega) HR.out ?_
            intro t12 t41 t261 t262 t263 t264 t265 t266 t267 t268 t269 t270 t271 t272 t273 t274 wx hO
            have KO := hide (H1.out.trans hO)
            clear hO H1
            go_wp2
            go_roundw
            case rel => exact ⟨j + 1, by omega, by simp [hws], by simp, KO.out⟩
            case measure => simp [intOf]; omega

          · have hcn : ¬ (c : Int) < (n : Int) := by omega
            have hl : bits BinOp.and IntKind.u64 (lens / 2 ^ (2 * (i * 4 + j))) 3 = (lN lens i j : Int) := lN_eq lens i j
            have hl3 := lN_le lens i j
            rw [hl]
            have hl' : wrap64 (lN lens i j : Int) = (lN lens i j : Int) := by unfold wrap64; omega
            rw [hl']
            clear hl hl'
            have hTj := HT.out
            rw [if_neg (by rintro ⟨h1', h2'⟩; first | exact hjc h1' | (rw [hmj] at h2'; cases h2'))] at hTj
            have hTL : (T j).length = lN lens i j := by rw [hTj]; exact TF_len lens i j
            have hTL' : ((T j).length : Int) = (lN lens i j : Int) := by omega
            have hrow : ∀ s, s < lN lens i j → ∃ g', va = some ⟨g', 0, none⟩ ∧ wr.cell? ⟨g', s, none⟩ = some (.int .i64 (valI i j s)) := fun s hs => HC.out s _ (by rw [hTj]; exact TF_at lens i j s hs)
            have HR := hide hrow
            clear hrow hTj
            go_upto_region 68 with fail
            refine loop7 (i := i) (j := j) (l := lN lens i j) (by omega) (by omega) hl3 (by omega) HR.out ?_
            intro t12 t41 t261 t262 t263 t264 t265 t266 t267 t268 t269 t270 t271 t272 t273 t274 wx hO
            have KO := hide (H1.out.trans hO)
            clear hO H1
            go_wp2
            go_roundw
            case rel => exact ⟨j + 1, by omega, by simp [hws], by simp, KO.out⟩
            case measure => simp [intOf]; omega

    · have e : j = n := by omega
      subst e
      go_wp2
      exact HK.out _ _ _ _ _ _ _ _ _ _ _ _ _ _ _ _ _ _ _ _ _ _ _ _ _ _ _ _ _ _ _ _ _ _ _ _ _ _ _ _ _ _ _ _ _ _ _ _ _ _ _ _ _ _ _ _ _ _ _ _ _ _ _ _ _ _ _ _ _ _ _ _ _ _ _ _ _ _ _ _ _ _ _ _ _ _ _ _ _ _ _ _ _ _ h1

end Go.Proofs.YbulkagfuFmt

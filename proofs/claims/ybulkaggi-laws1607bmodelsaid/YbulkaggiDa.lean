import Derived.Test.YbulkaggiBa
import Derived.BigQuiet
namespace Go.Proofs.Ybulkaggi.BM
open Go.RowKit Go.Proofs.Ybulkaggi
set_option linter.unusedVariables false
set_option maxRecDepth 100000

/-- The loops of a code, the outer one first. -/
def loopsOf : Code → List Code
  | .loop c => .loop c :: loopsOf c
  | .seq a b => loopsOf a ++ loopsOf b
  | .block _ c => loopsOf c
  | .scope c => loopsOf c
  | .cond _ a b => loopsOf a ++ loopsOf b
  | _ => []
def lpOf (b : Option Code) (k : Nat) : Code := ((b.map loopsOf).getD []).getD k .skip
theorem rd_iff {L : List O3} {p t j : Nat} {o : O3} (h : L[p]? = some o) : rdB o t j = true ↔ rdP L p t j := ⟨fun e => ⟨o, h, e⟩, fun ⟨o', h', e⟩ => by rw [h] at h'; cases h'; exact e⟩
theorem wr_iff {L : List O3} {p t j : Nat} {o : O3} (h : L[p]? = some o) : wrB o t j = true ↔ wrP L p t j := ⟨fun e => ⟨o, h, e⟩, fun ⟨o', h', e⟩ => by rw [h] at h'; cases h'; exact e⟩
theorem at_lt {L : List O3} {n p : Nat} (hl : L.length = n) (hp : p < n) : ∃ o, L[p]? = some o := ⟨L[p]'(by omega), List.getElem?_eq_getElem _⟩
/-- Between p and u: B writes, with no read of B's before. -/
def aft (L : List O3) (b k p u : Nat) : Prop := ∃ q, p < q ∧ q < u ∧ wrP L q b k ∧ ∀ x, p < x → x < q → ¬ rdP L x b k

set_option maxHeartbeats 4000000 in
theorem m_loop7 {QQ : Exit → Act → World → Prop} {g n c k a b p : Nat} {L : List O3} {w : World} {y1 y2 y4 y5 y6 y7 y8 y9 y10 y11 y12 y13 y14 y15 y16 y20 y21 y22 y23 y27 y28 y29 y30 y31 y32 y33 y34 y35 y36 y37 y38 y39 y40 y41 y42 y43 y44 y45 y46 y47 y48 y49 y50 y51 y52 y53 y54 y55 y56 y57 y58 y59 y60 y61 y62 y63 y64 y65 y66 y67 y68 y69 y70 y71 y72 y73 y74 y75 y76 y77 y78 y79 y80 y81 y82 y83 y84 y85 y86 y87 y88 y89 y90 y91 y92 y93 y94 y95 y96 y97 y98 y99 y100 y101 y102 y103 y104 y105 y106 y107 y108 y109 y110 y111 y112 y113 y114 y115 y116 y117 y118 y119 y120 y121 y122 y123 y124 y125 y126 y127 y128 y129 y130 y131 y132 y133 y134 y135 y136 y137 y138 y139 y140 y141 y142 y143 y144 y145 y146 y147 y148 y149 y150 y151 y152 y153 y154 y155 y156 y157 y158 y159 y160 y161 y162 y163 y164 y165 y166 y167 y168 y169 y170 y171 y172 y173 y174 y175 y176 y177 y178 y179 y180 y181 y182 y183 y184 y185 y186 y187 y188 y189 y190 y191 y192 y193 y194 y195 y196 y197 y198 y199 y200 y201 y202 y203 y204 y205 y206 y207 y208 y209 y210 y211 y212 y213 y214 y215 y216 y217 y218 y219 y220 y221 y222 y223 y224 y225 y226 y227 y228 y229 y230 y231 y232 y233 y234 y235 y236 y237 y238 y239 y240 y241 y242 y243 y244 y245 y246 y247 y248 y249 y250 y251 y252 y253 y254 y255 y256 y257 y258 y259 y260 y261 y262 y263 y264 y265 y266 y267 y268 y269 y270 y271 y272 y273 y274 y275 y276 y277 y278 y279 y280 y281 y282 y283 y284 y285 y286 y287 y288 y289 y290 y291 y292 y293 y294 y295 y296 y297 y298 y299 y300 y301 y302 y303 y304 y305 : Value}
    (hn : n ≤ 256) (hl : L.length = n) (h : OpsAt w g L) (hk : k < 3) (hp : p < n)
    (hK : ∀ (t26 t141 t142 t143 t144 t145 t146 t147 t148 t149 t150 : Value) (v : Bool), (v = true ↔ ∃ q, q < p ∧ rdP L q b k) → QQ (.exit 12) { tmps := List.toArray ((.slice (some ⟨g, 0, none⟩) n c) :: y1 :: y2 :: (.int .i64 (n : Int)) :: y4 :: y5 :: y6 :: y7 :: y8 :: y9 :: y10 :: y11 :: y12 :: y13 :: y14 :: y15 :: y16 :: (.string (itS k)) :: (.int .i64 (a : Int)) :: (.int .i64 (b : Int)) :: y20 :: y21 :: y22 :: y23 :: (.int .i64 (p : Int)) :: (.bool v) :: (t26) :: y27 :: y28 :: y29 :: y30 :: y31 :: y32 :: y33 :: y34 :: y35 :: y36 :: y37 :: y38 :: y39 :: y40 :: y41 :: y42 :: y43 :: y44 :: y45 :: y46 :: y47 :: y48 :: y49 :: y50 :: y51 :: y52 :: y53 :: y54 :: y55 :: y56 :: y57 :: y58 :: y59 :: y60 :: y61 :: y62 :: y63 :: y64 :: y65 :: y66 :: y67 :: y68 :: y69 :: y70 :: y71 :: y72 :: y73 :: y74 :: y75 :: y76 :: y77 :: y78 :: y79 :: y80 :: y81 :: y82 :: y83 :: y84 :: y85 :: y86 :: y87 :: y88 :: y89 :: y90 :: y91 :: y92 :: y93 :: y94 :: y95 :: y96 :: y97 :: y98 :: y99 :: y100 :: y101 :: y102 :: y103 :: y104 :: y105 :: y106 :: y107 :: y108 :: y109 :: y110 :: y111 :: y112 :: y113 :: y114 :: y115 :: y116 :: y117 :: y118 :: y119 :: y120 :: y121 :: y122 :: y123 :: y124 :: y125 :: y126 :: y127 :: y128 :: y129 :: y130 :: y131 :: y132 :: y133 :: y134 :: y135 :: y136 :: y137 :: y138 :: y139 :: y140 :: (t141) :: (t142) :: (t143) :: (t144) :: (t145) :: (t146) :: (t147) :: (t148) :: (t149) :: (t150) :: y151 :: y152 :: y153 :: y154 :: y155 :: y156 :: y157 :: y158 :: y159 :: y160 :: y161 :: y162 :: y163 :: y164 :: y165 :: y166 :: y167 :: y168 :: y169 :: y170 :: y171 :: y172 :: y173 :: y174 :: y175 :: y176 :: y177 :: y178 :: y179 :: y180 :: y181 :: y182 :: y183 :: y184 :: y185 :: y186 :: y187 :: y188 :: y189 :: y190 :: y191 :: y192 :: y193 :: y194 :: y195 :: y196 :: y197 :: y198 :: y199 :: y200 :: y201 :: y202 :: y203 :: y204 :: y205 :: y206 :: y207 :: y208 :: y209 :: y210 :: y211 :: y212 :: y213 :: y214 :: y215 :: y216 :: y217 :: y218 :: y219 :: y220 :: y221 :: y222 :: y223 :: y224 :: y225 :: y226 :: y227 :: y228 :: y229 :: y230 :: y231 :: y232 :: y233 :: y234 :: y235 :: y236 :: y237 :: y238 :: y239 :: y240 :: y241 :: y242 :: y243 :: y244 :: y245 :: y246 :: y247 :: y248 :: y249 :: y250 :: y251 :: y252 :: y253 :: y254 :: y255 :: y256 :: y257 :: y258 :: y259 :: y260 :: y261 :: y262 :: y263 :: y264 :: y265 :: y266 :: y267 :: y268 :: y269 :: y270 :: y271 :: y272 :: y273 :: y274 :: y275 :: y276 :: y277 :: y278 :: y279 :: y280 :: y281 :: y282 :: y283 :: y284 :: y285 :: y286 :: y287 :: y288 :: y289 :: y290 :: y291 :: y292 :: y293 :: y294 :: y295 :: y296 :: y297 :: y298 :: y299 :: y300 :: y301 :: y302 :: y303 :: y304 :: y305 :: []), defers := [] } w) :
    Code.wp Yba.prog (lpOf Yba.f16.body 6) QQ { tmps := List.toArray ((.slice (some ⟨g, 0, none⟩) n c) :: y1 :: y2 :: (.int .i64 (n : Int)) :: y4 :: y5 :: y6 :: y7 :: y8 :: y9 :: y10 :: y11 :: y12 :: y13 :: y14 :: y15 :: y16 :: (.string (itS k)) :: (.int .i64 (a : Int)) :: (.int .i64 (b : Int)) :: y20 :: y21 :: y22 :: y23 :: (.int .i64 (p : Int)) :: (.bool false) :: (.int .i64 0) :: y27 :: y28 :: y29 :: y30 :: y31 :: y32 :: y33 :: y34 :: y35 :: y36 :: y37 :: y38 :: y39 :: y40 :: y41 :: y42 :: y43 :: y44 :: y45 :: y46 :: y47 :: y48 :: y49 :: y50 :: y51 :: y52 :: y53 :: y54 :: y55 :: y56 :: y57 :: y58 :: y59 :: y60 :: y61 :: y62 :: y63 :: y64 :: y65 :: y66 :: y67 :: y68 :: y69 :: y70 :: y71 :: y72 :: y73 :: y74 :: y75 :: y76 :: y77 :: y78 :: y79 :: y80 :: y81 :: y82 :: y83 :: y84 :: y85 :: y86 :: y87 :: y88 :: y89 :: y90 :: y91 :: y92 :: y93 :: y94 :: y95 :: y96 :: y97 :: y98 :: y99 :: y100 :: y101 :: y102 :: y103 :: y104 :: y105 :: y106 :: y107 :: y108 :: y109 :: y110 :: y111 :: y112 :: y113 :: y114 :: y115 :: y116 :: y117 :: y118 :: y119 :: y120 :: y121 :: y122 :: y123 :: y124 :: y125 :: y126 :: y127 :: y128 :: y129 :: y130 :: y131 :: y132 :: y133 :: y134 :: y135 :: y136 :: y137 :: y138 :: y139 :: y140 :: y141 :: y142 :: y143 :: y144 :: y145 :: y146 :: y147 :: y148 :: y149 :: y150 :: y151 :: y152 :: y153 :: y154 :: y155 :: y156 :: y157 :: y158 :: y159 :: y160 :: y161 :: y162 :: y163 :: y164 :: y165 :: y166 :: y167 :: y168 :: y169 :: y170 :: y171 :: y172 :: y173 :: y174 :: y175 :: y176 :: y177 :: y178 :: y179 :: y180 :: y181 :: y182 :: y183 :: y184 :: y185 :: y186 :: y187 :: y188 :: y189 :: y190 :: y191 :: y192 :: y193 :: y194 :: y195 :: y196 :: y197 :: y198 :: y199 :: y200 :: y201 :: y202 :: y203 :: y204 :: y205 :: y206 :: y207 :: y208 :: y209 :: y210 :: y211 :: y212 :: y213 :: y214 :: y215 :: y216 :: y217 :: y218 :: y219 :: y220 :: y221 :: y222 :: y223 :: y224 :: y225 :: y226 :: y227 :: y228 :: y229 :: y230 :: y231 :: y232 :: y233 :: y234 :: y235 :: y236 :: y237 :: y238 :: y239 :: y240 :: y241 :: y242 :: y243 :: y244 :: y245 :: y246 :: y247 :: y248 :: y249 :: y250 :: y251 :: y252 :: y253 :: y254 :: y255 :: y256 :: y257 :: y258 :: y259 :: y260 :: y261 :: y262 :: y263 :: y264 :: y265 :: y266 :: y267 :: y268 :: y269 :: y270 :: y271 :: y272 :: y273 :: y274 :: y275 :: y276 :: y277 :: y278 :: y279 :: y280 :: y281 :: y282 :: y283 :: y284 :: y285 :: y286 :: y287 :: y288 :: y289 :: y290 :: y291 :: y292 :: y293 :: y294 :: y295 :: y296 :: y297 :: y298 :: y299 :: y300 :: y301 :: y302 :: y303 :: y304 :: y305 :: []), defers := [] } w := by
  have HK := hide hK
  clear hK
  have H := hide h
  have HL := hide hl
  clear h hl
  conv => arg 2; whnf
  go_loopw [25, 26] (fun u v wx => ∃ (s : Nat) (x : Bool), s ≤ p ∧ u = .bool x ∧ v = .int .i64 (s : Int) ∧ (x = true ↔ ∃ q, q < s ∧ rdP L q b k) ∧ wx = w) (fun u v _ => p - (intOf v).toNat)
  case atStart => exact ⟨0, false, by omega, rfl, rfl, ⟨fun e => absurd e (by decide), fun ⟨q, e, _⟩ => by omega⟩, rfl⟩
  case round =>
    obtain ⟨s, x, hs, rfl, rfl, hx, hw⟩ := hrel
    subst hw
    by_cases hsp : s < p
    · have hsp' : (s : Int) < (p : Int) := by omega
      obtain ⟨o, ho⟩ := at_lt HL.out (show s < n by omega)
      have C := hide (br_at (cap := c) (t := b) wr H.out HL.out hk s o ho)
      have HX := hide (ex_succ (P := fun q => rdP L q b k) (p := s))
      have RI := hide (rd_iff (t := b) (j := k) ho)
      have HX2 := hide hx
      clear hx ho
      generalize rdB o b k = r at *
      cases r with
      | true =>
        go_wp2_with (go_at_call 36; refine C.out.mono ?_; rintro e w' ⟨rfl, hw⟩; obtain rfl := hw.symm)
        go_roundw
        case rel => exact ⟨s + 1, true, by omega, rfl, by go_num, ⟨fun _ => HX.out.2 (.inr (RI.out.1 (by first | rfl | trivial))), fun _ => rfl⟩, by first | rfl | trivial⟩
        case measure => simp [intOf]; omega
      | false =>
        go_wp2_with (go_at_call 36; refine C.out.mono ?_; rintro e w' ⟨rfl, hw⟩; obtain rfl := hw.symm)
        go_roundw
        case rel => exact ⟨s + 1, x, by omega, rfl, by go_num, HX2.out.trans ⟨fun e => HX.out.2 (.inl e), fun e => (HX.out.1 e).elim id fun e => absurd (RI.out.2 e) (by decide)⟩, by first | rfl | trivial⟩
        case measure => simp [intOf]; omega
    · obtain rfl : s = p := by omega
      have HX2 := hide hx
      clear hx
      go_wp2
      exact HK.out _ _ _ _ _ _ _ _ _ _ _ x HX2.out

set_option maxHeartbeats 4000000 in
theorem m_loop10 {QQ : Exit → Act → World → Prop} {g n c k a b p : Nat} {L : List O3} {z : Bool} {w : World} {y1 y2 y4 y5 y6 y7 y8 y9 y10 y11 y12 y13 y14 y15 y16 y20 y21 y23 y25 y26 y27 y28 y29 y31 y32 y33 y34 y35 y36 y37 y38 y39 y40 y41 y42 y43 y44 y45 y46 y47 y48 y49 y50 y51 y52 y53 y54 y55 y56 y57 y58 y59 y60 y61 y62 y63 y64 y65 y66 y67 y68 y69 y70 y71 y72 y73 y74 y75 y76 y77 y78 y79 y80 y81 y82 y83 y84 y85 y86 y87 y88 y89 y90 y91 y92 y93 y94 y95 y96 y97 y98 y99 y100 y101 y102 y103 y104 y105 y106 y107 y108 y109 y110 y111 y112 y113 y114 y115 y116 y117 y118 y119 y120 y121 y122 y123 y124 y125 y126 y127 y128 y129 y130 y131 y132 y133 y134 y135 y136 y137 y138 y139 y140 y141 y142 y143 y144 y145 y146 y147 y148 y149 y150 y151 y152 y153 y154 y155 y156 y157 y158 y159 y160 y161 y162 y163 y164 y165 y166 y167 y168 y169 y170 y171 y172 y173 y174 y175 y176 y177 y178 y179 y180 y181 y182 y183 y184 y185 y186 y187 y188 y189 y190 y191 y192 y193 y194 y195 y196 y197 y198 y199 y200 y201 y202 y203 y204 y205 y206 y207 y208 y209 y210 y211 y212 y213 y214 y215 y216 y217 y218 y219 y220 y221 y222 y223 y224 y225 y226 y227 y228 y229 y230 y231 y232 y233 y234 y235 y236 y237 y238 y239 y240 y241 y242 y243 y244 y245 y246 y247 y248 y249 y250 y251 y252 y253 y254 y255 y256 y257 y258 y259 y260 y261 y262 y263 y264 y265 y266 y267 y268 y269 y270 y271 y272 y273 y274 y275 y276 y277 y278 y279 y280 y281 y282 y283 y284 y285 y286 y287 y288 y289 y290 y291 y292 y293 y294 y295 y296 y297 y298 y299 y300 y301 y302 y303 y304 y305 : Value}
    (hn : n ≤ 256) (hl : L.length = n) (h : OpsAt w g L) (hk : k < 3) (hp : p < n)
    (hK : ∀ (t30 t199 t200 t201 t202 t203 t204 t205 t206 t207 t208 : Value) (v : Bool), (v = true ↔ z = true ∨ ∃ q, q < n ∧ p < q ∧ wrP L q b k) → QQ (.exit 18) { tmps := List.toArray ((.slice (some ⟨g, 0, none⟩) n c) :: y1 :: y2 :: (.int .i64 (n : Int)) :: y4 :: y5 :: y6 :: y7 :: y8 :: y9 :: y10 :: y11 :: y12 :: y13 :: y14 :: y15 :: y16 :: (.string (itS k)) :: (.int .i64 (a : Int)) :: (.int .i64 (b : Int)) :: y20 :: y21 :: (.bool v) :: y23 :: (.int .i64 (p : Int)) :: y25 :: y26 :: y27 :: y28 :: y29 :: (t30) :: y31 :: y32 :: y33 :: y34 :: y35 :: y36 :: y37 :: y38 :: y39 :: y40 :: y41 :: y42 :: y43 :: y44 :: y45 :: y46 :: y47 :: y48 :: y49 :: y50 :: y51 :: y52 :: y53 :: y54 :: y55 :: y56 :: y57 :: y58 :: y59 :: y60 :: y61 :: y62 :: y63 :: y64 :: y65 :: y66 :: y67 :: y68 :: y69 :: y70 :: y71 :: y72 :: y73 :: y74 :: y75 :: y76 :: y77 :: y78 :: y79 :: y80 :: y81 :: y82 :: y83 :: y84 :: y85 :: y86 :: y87 :: y88 :: y89 :: y90 :: y91 :: y92 :: y93 :: y94 :: y95 :: y96 :: y97 :: y98 :: y99 :: y100 :: y101 :: y102 :: y103 :: y104 :: y105 :: y106 :: y107 :: y108 :: y109 :: y110 :: y111 :: y112 :: y113 :: y114 :: y115 :: y116 :: y117 :: y118 :: y119 :: y120 :: y121 :: y122 :: y123 :: y124 :: y125 :: y126 :: y127 :: y128 :: y129 :: y130 :: y131 :: y132 :: y133 :: y134 :: y135 :: y136 :: y137 :: y138 :: y139 :: y140 :: y141 :: y142 :: y143 :: y144 :: y145 :: y146 :: y147 :: y148 :: y149 :: y150 :: y151 :: y152 :: y153 :: y154 :: y155 :: y156 :: y157 :: y158 :: y159 :: y160 :: y161 :: y162 :: y163 :: y164 :: y165 :: y166 :: y167 :: y168 :: y169 :: y170 :: y171 :: y172 :: y173 :: y174 :: y175 :: y176 :: y177 :: y178 :: y179 :: y180 :: y181 :: y182 :: y183 :: y184 :: y185 :: y186 :: y187 :: y188 :: y189 :: y190 :: y191 :: y192 :: y193 :: y194 :: y195 :: y196 :: y197 :: y198 :: (t199) :: (t200) :: (t201) :: (t202) :: (t203) :: (t204) :: (t205) :: (t206) :: (t207) :: (t208) :: y209 :: y210 :: y211 :: y212 :: y213 :: y214 :: y215 :: y216 :: y217 :: y218 :: y219 :: y220 :: y221 :: y222 :: y223 :: y224 :: y225 :: y226 :: y227 :: y228 :: y229 :: y230 :: y231 :: y232 :: y233 :: y234 :: y235 :: y236 :: y237 :: y238 :: y239 :: y240 :: y241 :: y242 :: y243 :: y244 :: y245 :: y246 :: y247 :: y248 :: y249 :: y250 :: y251 :: y252 :: y253 :: y254 :: y255 :: y256 :: y257 :: y258 :: y259 :: y260 :: y261 :: y262 :: y263 :: y264 :: y265 :: y266 :: y267 :: y268 :: y269 :: y270 :: y271 :: y272 :: y273 :: y274 :: y275 :: y276 :: y277 :: y278 :: y279 :: y280 :: y281 :: y282 :: y283 :: y284 :: y285 :: y286 :: y287 :: y288 :: y289 :: y290 :: y291 :: y292 :: y293 :: y294 :: y295 :: y296 :: y297 :: y298 :: y299 :: y300 :: y301 :: y302 :: y303 :: y304 :: y305 :: []), defers := [] } w) :
    Code.wp Yba.prog (lpOf Yba.f16.body 9) QQ { tmps := List.toArray ((.slice (some ⟨g, 0, none⟩) n c) :: y1 :: y2 :: (.int .i64 (n : Int)) :: y4 :: y5 :: y6 :: y7 :: y8 :: y9 :: y10 :: y11 :: y12 :: y13 :: y14 :: y15 :: y16 :: (.string (itS k)) :: (.int .i64 (a : Int)) :: (.int .i64 (b : Int)) :: y20 :: y21 :: (.bool z) :: y23 :: (.int .i64 (p : Int)) :: y25 :: y26 :: y27 :: y28 :: y29 :: (.int .i64 ((p : Int) + 1)) :: y31 :: y32 :: y33 :: y34 :: y35 :: y36 :: y37 :: y38 :: y39 :: y40 :: y41 :: y42 :: y43 :: y44 :: y45 :: y46 :: y47 :: y48 :: y49 :: y50 :: y51 :: y52 :: y53 :: y54 :: y55 :: y56 :: y57 :: y58 :: y59 :: y60 :: y61 :: y62 :: y63 :: y64 :: y65 :: y66 :: y67 :: y68 :: y69 :: y70 :: y71 :: y72 :: y73 :: y74 :: y75 :: y76 :: y77 :: y78 :: y79 :: y80 :: y81 :: y82 :: y83 :: y84 :: y85 :: y86 :: y87 :: y88 :: y89 :: y90 :: y91 :: y92 :: y93 :: y94 :: y95 :: y96 :: y97 :: y98 :: y99 :: y100 :: y101 :: y102 :: y103 :: y104 :: y105 :: y106 :: y107 :: y108 :: y109 :: y110 :: y111 :: y112 :: y113 :: y114 :: y115 :: y116 :: y117 :: y118 :: y119 :: y120 :: y121 :: y122 :: y123 :: y124 :: y125 :: y126 :: y127 :: y128 :: y129 :: y130 :: y131 :: y132 :: y133 :: y134 :: y135 :: y136 :: y137 :: y138 :: y139 :: y140 :: y141 :: y142 :: y143 :: y144 :: y145 :: y146 :: y147 :: y148 :: y149 :: y150 :: y151 :: y152 :: y153 :: y154 :: y155 :: y156 :: y157 :: y158 :: y159 :: y160 :: y161 :: y162 :: y163 :: y164 :: y165 :: y166 :: y167 :: y168 :: y169 :: y170 :: y171 :: y172 :: y173 :: y174 :: y175 :: y176 :: y177 :: y178 :: y179 :: y180 :: y181 :: y182 :: y183 :: y184 :: y185 :: y186 :: y187 :: y188 :: y189 :: y190 :: y191 :: y192 :: y193 :: y194 :: y195 :: y196 :: y197 :: y198 :: y199 :: y200 :: y201 :: y202 :: y203 :: y204 :: y205 :: y206 :: y207 :: y208 :: y209 :: y210 :: y211 :: y212 :: y213 :: y214 :: y215 :: y216 :: y217 :: y218 :: y219 :: y220 :: y221 :: y222 :: y223 :: y224 :: y225 :: y226 :: y227 :: y228 :: y229 :: y230 :: y231 :: y232 :: y233 :: y234 :: y235 :: y236 :: y237 :: y238 :: y239 :: y240 :: y241 :: y242 :: y243 :: y244 :: y245 :: y246 :: y247 :: y248 :: y249 :: y250 :: y251 :: y252 :: y253 :: y254 :: y255 :: y256 :: y257 :: y258 :: y259 :: y260 :: y261 :: y262 :: y263 :: y264 :: y265 :: y266 :: y267 :: y268 :: y269 :: y270 :: y271 :: y272 :: y273 :: y274 :: y275 :: y276 :: y277 :: y278 :: y279 :: y280 :: y281 :: y282 :: y283 :: y284 :: y285 :: y286 :: y287 :: y288 :: y289 :: y290 :: y291 :: y292 :: y293 :: y294 :: y295 :: y296 :: y297 :: y298 :: y299 :: y300 :: y301 :: y302 :: y303 :: y304 :: y305 :: []), defers := [] } w := by
  have HK := hide hK
  clear hK
  have H := hide h
  have HL := hide hl
  clear h hl
  conv => arg 2; whnf
  go_loopw [22, 30] (fun u v wx => ∃ (s : Nat) (x : Bool), p < s ∧ s ≤ n ∧ u = .bool x ∧ v = .int .i64 (s : Int) ∧ (x = true ↔ z = true ∨ ∃ q, q < s ∧ p < q ∧ wrP L q b k) ∧ wx = w) (fun u v _ => n - (intOf v).toNat)
  case atStart => exact ⟨p + 1, z, by omega, by omega, rfl, by go_num, ⟨fun e => .inl e, fun e => e.elim id fun ⟨q, e, e', _⟩ => by omega⟩, rfl⟩
  case round =>
    obtain ⟨s, x, hps, hs, rfl, rfl, hx, hw⟩ := hrel
    subst hw
    by_cases hsp : s < n
    · have hsp' : (s : Int) < (n : Int) := by omega
      obtain ⟨o, ho⟩ := at_lt HL.out hsp
      have C := hide (bw_at (cap := c) (t := b) wr H.out HL.out hk s o ho)
      have HX := hide (ex_succ (P := fun q => p < q ∧ wrP L q b k) (p := s))
      have RI := hide (wr_iff (t := b) (j := k) ho)
      have HX2 := hide hx
      clear hx ho
      generalize wrB o b k = r at *
      cases r with
      | true =>
        go_wp2_with (go_at_call 35; refine C.out.mono ?_; rintro e w' ⟨rfl, hw⟩; obtain rfl := hw.symm)
        go_roundw
        case rel => exact ⟨s + 1, true, by omega, by omega, rfl, by go_num, ⟨fun _ => .inr (HX.out.2 (.inr ⟨hps, RI.out.1 (by first | rfl | trivial)⟩)), fun _ => rfl⟩, by first | rfl | trivial⟩
        case measure => simp [intOf]; omega
      | false =>
        go_wp2_with (go_at_call 35; refine C.out.mono ?_; rintro e w' ⟨rfl, hw⟩; obtain rfl := hw.symm)
        go_roundw
        case rel => exact ⟨s + 1, x, by omega, by omega, rfl, by go_num, HX2.out.trans ⟨fun e => e.elim .inl fun e => .inr (HX.out.2 (.inl e)), fun e => e.elim .inl fun e => .inr ((HX.out.1 e).elim id fun e => absurd (RI.out.2 e.2) (by decide))⟩, by first | rfl | trivial⟩
        case measure => simp [intOf]; omega
    · obtain rfl : s = n := by omega
      have HX2 := hide hx
      clear hx
      go_wp2
      exact HK.out _ _ _ _ _ _ _ _ _ _ _ x HX2.out

set_option maxHeartbeats 4000000 in
theorem m_loop8 {QQ : Exit → Act → World → Prop} {g n c k a b p : Nat} {L : List O3} {z : Bool} {w : World} {y1 y2 y4 y5 y6 y7 y8 y9 y10 y11 y12 y13 y14 y15 y16 y21 y22 y23 y25 y26 y28 y29 y30 y31 y32 y33 y34 y35 y36 y37 y38 y39 y40 y41 y42 y43 y44 y45 y46 y47 y48 y49 y50 y51 y52 y53 y54 y55 y56 y57 y58 y59 y60 y61 y62 y63 y64 y65 y66 y67 y68 y69 y70 y71 y72 y73 y74 y75 y76 y77 y78 y79 y80 y81 y82 y83 y84 y85 y86 y87 y88 y89 y90 y91 y92 y93 y94 y95 y96 y97 y98 y99 y100 y101 y102 y103 y104 y105 y106 y107 y108 y109 y110 y111 y112 y113 y114 y115 y116 y117 y118 y119 y120 y121 y122 y123 y124 y125 y126 y127 y128 y129 y130 y131 y132 y133 y134 y135 y136 y137 y138 y139 y140 y141 y142 y143 y144 y145 y146 y147 y148 y149 y150 y151 y152 y153 y154 y155 y156 y157 y158 y159 y160 y161 y162 y163 y164 y165 y166 y167 y168 y169 y170 y171 y172 y173 y174 y175 y176 y177 y178 y179 y180 y181 y182 y183 y184 y185 y186 y187 y188 y189 y190 y191 y192 y193 y194 y195 y196 y197 y198 y199 y200 y201 y202 y203 y204 y205 y206 y207 y208 y209 y210 y211 y212 y213 y214 y215 y216 y217 y218 y219 y220 y221 y222 y223 y224 y225 y226 y227 y228 y229 y230 y231 y232 y233 y234 y235 y236 y237 y238 y239 y240 y241 y242 y243 y244 y245 y246 y247 y248 y249 y250 y251 y252 y253 y254 y255 y256 y257 y258 y259 y260 y261 y262 y263 y264 y265 y266 y267 y268 y269 y270 y271 y272 y273 y274 y275 y276 y277 y278 y279 y280 y281 y282 y283 y284 y285 y286 y287 y288 y289 y290 y291 y292 y293 y294 y295 y296 y297 y298 y299 y300 y301 y302 y303 y304 y305 : Value}
    (hn : n ≤ 256) (hl : L.length = n) (h : OpsAt w g L) (hk : k < 3) (hp : p < n)
    (hK : ∀ (t27 t154 t155 t156 t157 t158 t159 t160 t161 t162 t163 t164 t165 t166 t167 t168 : Value) (v : Bool), (v = true ↔ z = true ∨ aft L b k p n) → QQ (.exit 14) { tmps := List.toArray ((.slice (some ⟨g, 0, none⟩) n c) :: y1 :: y2 :: (.int .i64 (n : Int)) :: y4 :: y5 :: y6 :: y7 :: y8 :: y9 :: y10 :: y11 :: y12 :: y13 :: y14 :: y15 :: y16 :: (.string (itS k)) :: (.int .i64 (a : Int)) :: (.int .i64 (b : Int)) :: (.bool v) :: y21 :: y22 :: y23 :: (.int .i64 (p : Int)) :: y25 :: y26 :: (t27) :: y28 :: y29 :: y30 :: y31 :: y32 :: y33 :: y34 :: y35 :: y36 :: y37 :: y38 :: y39 :: y40 :: y41 :: y42 :: y43 :: y44 :: y45 :: y46 :: y47 :: y48 :: y49 :: y50 :: y51 :: y52 :: y53 :: y54 :: y55 :: y56 :: y57 :: y58 :: y59 :: y60 :: y61 :: y62 :: y63 :: y64 :: y65 :: y66 :: y67 :: y68 :: y69 :: y70 :: y71 :: y72 :: y73 :: y74 :: y75 :: y76 :: y77 :: y78 :: y79 :: y80 :: y81 :: y82 :: y83 :: y84 :: y85 :: y86 :: y87 :: y88 :: y89 :: y90 :: y91 :: y92 :: y93 :: y94 :: y95 :: y96 :: y97 :: y98 :: y99 :: y100 :: y101 :: y102 :: y103 :: y104 :: y105 :: y106 :: y107 :: y108 :: y109 :: y110 :: y111 :: y112 :: y113 :: y114 :: y115 :: y116 :: y117 :: y118 :: y119 :: y120 :: y121 :: y122 :: y123 :: y124 :: y125 :: y126 :: y127 :: y128 :: y129 :: y130 :: y131 :: y132 :: y133 :: y134 :: y135 :: y136 :: y137 :: y138 :: y139 :: y140 :: y141 :: y142 :: y143 :: y144 :: y145 :: y146 :: y147 :: y148 :: y149 :: y150 :: y151 :: y152 :: y153 :: (t154) :: (t155) :: (t156) :: (t157) :: (t158) :: (t159) :: (t160) :: (t161) :: (t162) :: (t163) :: (t164) :: (t165) :: (t166) :: (t167) :: (t168) :: y169 :: y170 :: y171 :: y172 :: y173 :: y174 :: y175 :: y176 :: y177 :: y178 :: y179 :: y180 :: y181 :: y182 :: y183 :: y184 :: y185 :: y186 :: y187 :: y188 :: y189 :: y190 :: y191 :: y192 :: y193 :: y194 :: y195 :: y196 :: y197 :: y198 :: y199 :: y200 :: y201 :: y202 :: y203 :: y204 :: y205 :: y206 :: y207 :: y208 :: y209 :: y210 :: y211 :: y212 :: y213 :: y214 :: y215 :: y216 :: y217 :: y218 :: y219 :: y220 :: y221 :: y222 :: y223 :: y224 :: y225 :: y226 :: y227 :: y228 :: y229 :: y230 :: y231 :: y232 :: y233 :: y234 :: y235 :: y236 :: y237 :: y238 :: y239 :: y240 :: y241 :: y242 :: y243 :: y244 :: y245 :: y246 :: y247 :: y248 :: y249 :: y250 :: y251 :: y252 :: y253 :: y254 :: y255 :: y256 :: y257 :: y258 :: y259 :: y260 :: y261 :: y262 :: y263 :: y264 :: y265 :: y266 :: y267 :: y268 :: y269 :: y270 :: y271 :: y272 :: y273 :: y274 :: y275 :: y276 :: y277 :: y278 :: y279 :: y280 :: y281 :: y282 :: y283 :: y284 :: y285 :: y286 :: y287 :: y288 :: y289 :: y290 :: y291 :: y292 :: y293 :: y294 :: y295 :: y296 :: y297 :: y298 :: y299 :: y300 :: y301 :: y302 :: y303 :: y304 :: y305 :: []), defers := [] } w) :
    Code.wp Yba.prog (lpOf Yba.f16.body 7) QQ { tmps := List.toArray ((.slice (some ⟨g, 0, none⟩) n c) :: y1 :: y2 :: (.int .i64 (n : Int)) :: y4 :: y5 :: y6 :: y7 :: y8 :: y9 :: y10 :: y11 :: y12 :: y13 :: y14 :: y15 :: y16 :: (.string (itS k)) :: (.int .i64 (a : Int)) :: (.int .i64 (b : Int)) :: (.bool z) :: y21 :: y22 :: y23 :: (.int .i64 (p : Int)) :: y25 :: y26 :: (.int .i64 ((p : Int) + 1)) :: y28 :: y29 :: y30 :: y31 :: y32 :: y33 :: y34 :: y35 :: y36 :: y37 :: y38 :: y39 :: y40 :: y41 :: y42 :: y43 :: y44 :: y45 :: y46 :: y47 :: y48 :: y49 :: y50 :: y51 :: y52 :: y53 :: y54 :: y55 :: y56 :: y57 :: y58 :: y59 :: y60 :: y61 :: y62 :: y63 :: y64 :: y65 :: y66 :: y67 :: y68 :: y69 :: y70 :: y71 :: y72 :: y73 :: y74 :: y75 :: y76 :: y77 :: y78 :: y79 :: y80 :: y81 :: y82 :: y83 :: y84 :: y85 :: y86 :: y87 :: y88 :: y89 :: y90 :: y91 :: y92 :: y93 :: y94 :: y95 :: y96 :: y97 :: y98 :: y99 :: y100 :: y101 :: y102 :: y103 :: y104 :: y105 :: y106 :: y107 :: y108 :: y109 :: y110 :: y111 :: y112 :: y113 :: y114 :: y115 :: y116 :: y117 :: y118 :: y119 :: y120 :: y121 :: y122 :: y123 :: y124 :: y125 :: y126 :: y127 :: y128 :: y129 :: y130 :: y131 :: y132 :: y133 :: y134 :: y135 :: y136 :: y137 :: y138 :: y139 :: y140 :: y141 :: y142 :: y143 :: y144 :: y145 :: y146 :: y147 :: y148 :: y149 :: y150 :: y151 :: y152 :: y153 :: y154 :: y155 :: y156 :: y157 :: y158 :: y159 :: y160 :: y161 :: y162 :: y163 :: y164 :: y165 :: y166 :: y167 :: y168 :: y169 :: y170 :: y171 :: y172 :: y173 :: y174 :: y175 :: y176 :: y177 :: y178 :: y179 :: y180 :: y181 :: y182 :: y183 :: y184 :: y185 :: y186 :: y187 :: y188 :: y189 :: y190 :: y191 :: y192 :: y193 :: y194 :: y195 :: y196 :: y197 :: y198 :: y199 :: y200 :: y201 :: y202 :: y203 :: y204 :: y205 :: y206 :: y207 :: y208 :: y209 :: y210 :: y211 :: y212 :: y213 :: y214 :: y215 :: y216 :: y217 :: y218 :: y219 :: y220 :: y221 :: y222 :: y223 :: y224 :: y225 :: y226 :: y227 :: y228 :: y229 :: y230 :: y231 :: y232 :: y233 :: y234 :: y235 :: y236 :: y237 :: y238 :: y239 :: y240 :: y241 :: y242 :: y243 :: y244 :: y245 :: y246 :: y247 :: y248 :: y249 :: y250 :: y251 :: y252 :: y253 :: y254 :: y255 :: y256 :: y257 :: y258 :: y259 :: y260 :: y261 :: y262 :: y263 :: y264 :: y265 :: y266 :: y267 :: y268 :: y269 :: y270 :: y271 :: y272 :: y273 :: y274 :: y275 :: y276 :: y277 :: y278 :: y279 :: y280 :: y281 :: y282 :: y283 :: y284 :: y285 :: y286 :: y287 :: y288 :: y289 :: y290 :: y291 :: y292 :: y293 :: y294 :: y295 :: y296 :: y297 :: y298 :: y299 :: y300 :: y301 :: y302 :: y303 :: y304 :: y305 :: []), defers := [] } w := by
  have HK := hide hK
  clear hK
  have H := hide h
  have HL := hide hl
  clear h hl
  conv => arg 2; whnf
  go_loopw [20, 27] (fun u v wx => ∃ (s : Nat), p < s ∧ s ≤ n ∧ u = .bool z ∧ v = .int .i64 (s : Int) ∧ (∀ q, p < q → q < s → ¬ rdP L q b k ∧ ¬ wrP L q b k) ∧ wx = w) (fun u v _ => n - (intOf v).toNat)
  case atStart => exact ⟨p + 1, by omega, by omega, rfl, by go_num, fun q e e' => by omega, rfl⟩
  case round =>
    obtain ⟨s, hps, hs, rfl, rfl, hx, hw⟩ := hrel
    subst hw
    by_cases hsp : s < n
    · have hsp' : (s : Int) < (n : Int) := by omega
      obtain ⟨o, ho⟩ := at_lt HL.out hsp
      have C := hide (br_at (cap := c) (t := b) wr H.out HL.out hk s o ho)
      have C2 := hide (bw_at (cap := c) (t := b) wr H.out HL.out hk s o ho)
      have RI := hide (rd_iff (t := b) (j := k) ho)
      have WI := hide (wr_iff (t := b) (j := k) ho)
      have HX2 := hide hx
      clear hx ho
      generalize rdB o b k = r at *
      generalize wrB o b k = r2 at *
      cases r with
      | true =>
        have FN : Hid (z = true ↔ z = true ∨ aft L b k p n) := ⟨.inl, fun e => e.elim id fun ⟨q, e1, e2, e3, e4⟩ => by
          rcases Nat.lt_trichotomy q s with e | e | e
          · exact absurd e3 (HX2.out q e1 e).2
          · subst e; exact absurd e3 (fun e5 => rd_not_wr (RI.out.1 (by first | rfl | trivial)) e5)
          · exact absurd (RI.out.1 (by first | rfl | trivial)) (e4 s hps e)⟩
        go_wp2_with (go_at_call 36; refine C.out.mono ?_; rintro e w' ⟨rfl, hw⟩; obtain rfl := hw.symm)
        exact HK.out _ _ _ _ _ _ _ _ _ _ _ _ _ _ _ _ z FN.out
      | false =>
        cases r2 with
        | true =>
          have FN : Hid (true = true ↔ z = true ∨ aft L b k p n) := ⟨fun _ => .inr ⟨s, hps, hsp, WI.out.1 (by first | rfl | trivial), fun x e1 e2 => (HX2.out x e1 e2).1⟩, fun _ => rfl⟩
          go_wp2_with (first | (go_at_call 36; refine C.out.mono ?_; rintro e w' ⟨rfl, hw⟩; obtain rfl := hw.symm) | (go_at_call 35; refine C2.out.mono ?_; rintro e w' ⟨rfl, hw⟩; obtain rfl := hw.symm))
          exact HK.out _ _ _ _ _ _ _ _ _ _ _ _ _ _ _ _ true (by simpa using FN.out)
        | false =>
          have FN : Hid (∀ q, p < q → q < s + 1 → ¬ rdP L q b k ∧ ¬ wrP L q b k) := fun q e1 e2 => by
            by_cases e : q = s
            · subst e; exact ⟨fun e5 => absurd (RI.out.2 e5) (by decide), fun e5 => absurd (WI.out.2 e5) (by decide)⟩
            · exact HX2.out q e1 (by omega)
          go_wp2_with (first | (go_at_call 36; refine C.out.mono ?_; rintro e w' ⟨rfl, hw⟩; obtain rfl := hw.symm) | (go_at_call 35; refine C2.out.mono ?_; rintro e w' ⟨rfl, hw⟩; obtain rfl := hw.symm))
          go_roundw
          case rel => exact ⟨s + 1, by omega, by omega, rfl, by go_num, FN.out, by first | rfl | trivial⟩
          case measure => simp [intOf]; omega
    · obtain rfl : s = n := by omega
      have FN : Hid (z = true ↔ z = true ∨ aft L b k p s) := ⟨.inl, fun e => e.elim id fun ⟨q, e1, e2, e3, e4⟩ => absurd e3 (hx q e1 e2).2⟩
      clear hx
      go_wp2
      exact HK.out _ _ _ _ _ _ _ _ _ _ _ _ _ _ _ _ z FN.out

set_option maxHeartbeats 4000000 in
theorem m_loop9 {QQ : Exit → Act → World → Prop} {g n c k a b p : Nat} {L : List O3} {z1 z3 : Bool} {AB sb : Nat} {w : World} {y1 y2 y4 y5 y7 y8 y9 y10 y11 y12 y13 y14 y15 y16 y20 y22 y25 y26 y27 y30 y31 y32 y33 y34 y35 y36 y37 y38 y39 y40 y41 y42 y43 y44 y45 y46 y47 y48 y49 y50 y51 y52 y53 y54 y55 y56 y57 y58 y59 y60 y61 y62 y63 y64 y65 y66 y67 y68 y69 y70 y71 y72 y73 y74 y75 y76 y77 y78 y79 y80 y81 y82 y83 y84 y85 y86 y87 y88 y89 y90 y91 y92 y93 y94 y95 y96 y97 y98 y99 y100 y101 y102 y103 y104 y105 y106 y107 y108 y109 y110 y111 y112 y113 y114 y115 y116 y117 y118 y119 y120 y121 y122 y123 y124 y125 y126 y127 y128 y129 y130 y131 y132 y133 y134 y135 y136 y137 y138 y139 y140 y141 y142 y143 y144 y145 y146 y147 y148 y149 y150 y151 y152 y153 y154 y155 y156 y157 y158 y159 y160 y161 y162 y163 y164 y165 y166 y167 y168 y169 y170 y171 y172 y173 y174 y175 y176 y177 y178 y179 y180 y181 y182 y183 y184 y185 y186 y187 y188 y189 y190 y191 y192 y193 y194 y195 y196 y197 y198 y199 y200 y201 y202 y203 y204 y205 y206 y207 y208 y209 y210 y211 y212 y213 y214 y215 y216 y217 y218 y219 y220 y221 y222 y223 y224 y225 y226 y227 y228 y229 y230 y231 y232 y233 y234 y235 y236 y237 y238 y239 y240 y241 y242 y243 y244 y245 y246 y247 y248 y249 y250 y251 y252 y253 y254 y255 y256 y257 y258 y259 y260 y261 y262 y263 y264 y265 y266 y267 y268 y269 y270 y271 y272 y273 y274 y275 y276 y277 y278 y279 y280 y281 y282 y283 y284 y285 y286 y287 y288 y289 y290 y291 y292 y293 y294 y295 y296 y297 y298 y299 y300 y301 y302 y303 y304 y305 : Value}
    (hn : n ≤ 256) (hl : L.length = n) (h : OpsAt w g L) (hk : k < 3) (hp : p < n) (hb : b ≤ 4) (hsb : w.cell? ⟨AB, b, none⟩ = some (.int .i64 (sb : Int))) (hsn : sb ≤ 256)
    (hK : ∀ (t28 t29 t174 t175 t176 t177 t178 t179 t180 t181 t182 t183 t184 t185 t186 t187 t188 t189 t190 t191 t192 t193 t194 t195 t196 : Value) (v1 v3 : Bool), (v1 = true ↔ z1 = true ∨ ∃ q, q < p ∧ wrP L q b k ∧ p < sb ∧ ∃ x, x < q + 1 ∧ rdP L x a k) → (v3 = true ↔ z3 = true ∨ ∃ q, q < p ∧ wrP L q b k ∧ p < sb) → QQ (.exit 16) { tmps := List.toArray ((.slice (some ⟨g, 0, none⟩) n c) :: y1 :: y2 :: (.int .i64 (n : Int)) :: y4 :: y5 :: (Pp AB) :: y7 :: y8 :: y9 :: y10 :: y11 :: y12 :: y13 :: y14 :: y15 :: y16 :: (.string (itS k)) :: (.int .i64 (a : Int)) :: (.int .i64 (b : Int)) :: y20 :: (.bool v1) :: y22 :: (.bool v3) :: (.int .i64 (p : Int)) :: y25 :: y26 :: y27 :: (t28) :: (t29) :: y30 :: y31 :: y32 :: y33 :: y34 :: y35 :: y36 :: y37 :: y38 :: y39 :: y40 :: y41 :: y42 :: y43 :: y44 :: y45 :: y46 :: y47 :: y48 :: y49 :: y50 :: y51 :: y52 :: y53 :: y54 :: y55 :: y56 :: y57 :: y58 :: y59 :: y60 :: y61 :: y62 :: y63 :: y64 :: y65 :: y66 :: y67 :: y68 :: y69 :: y70 :: y71 :: y72 :: y73 :: y74 :: y75 :: y76 :: y77 :: y78 :: y79 :: y80 :: y81 :: y82 :: y83 :: y84 :: y85 :: y86 :: y87 :: y88 :: y89 :: y90 :: y91 :: y92 :: y93 :: y94 :: y95 :: y96 :: y97 :: y98 :: y99 :: y100 :: y101 :: y102 :: y103 :: y104 :: y105 :: y106 :: y107 :: y108 :: y109 :: y110 :: y111 :: y112 :: y113 :: y114 :: y115 :: y116 :: y117 :: y118 :: y119 :: y120 :: y121 :: y122 :: y123 :: y124 :: y125 :: y126 :: y127 :: y128 :: y129 :: y130 :: y131 :: y132 :: y133 :: y134 :: y135 :: y136 :: y137 :: y138 :: y139 :: y140 :: y141 :: y142 :: y143 :: y144 :: y145 :: y146 :: y147 :: y148 :: y149 :: y150 :: y151 :: y152 :: y153 :: y154 :: y155 :: y156 :: y157 :: y158 :: y159 :: y160 :: y161 :: y162 :: y163 :: y164 :: y165 :: y166 :: y167 :: y168 :: y169 :: y170 :: y171 :: y172 :: y173 :: (t174) :: (t175) :: (t176) :: (t177) :: (t178) :: (t179) :: (t180) :: (t181) :: (t182) :: (t183) :: (t184) :: (t185) :: (t186) :: (t187) :: (t188) :: (t189) :: (t190) :: (t191) :: (t192) :: (t193) :: (t194) :: (t195) :: (t196) :: y197 :: y198 :: y199 :: y200 :: y201 :: y202 :: y203 :: y204 :: y205 :: y206 :: y207 :: y208 :: y209 :: y210 :: y211 :: y212 :: y213 :: y214 :: y215 :: y216 :: y217 :: y218 :: y219 :: y220 :: y221 :: y222 :: y223 :: y224 :: y225 :: y226 :: y227 :: y228 :: y229 :: y230 :: y231 :: y232 :: y233 :: y234 :: y235 :: y236 :: y237 :: y238 :: y239 :: y240 :: y241 :: y242 :: y243 :: y244 :: y245 :: y246 :: y247 :: y248 :: y249 :: y250 :: y251 :: y252 :: y253 :: y254 :: y255 :: y256 :: y257 :: y258 :: y259 :: y260 :: y261 :: y262 :: y263 :: y264 :: y265 :: y266 :: y267 :: y268 :: y269 :: y270 :: y271 :: y272 :: y273 :: y274 :: y275 :: y276 :: y277 :: y278 :: y279 :: y280 :: y281 :: y282 :: y283 :: y284 :: y285 :: y286 :: y287 :: y288 :: y289 :: y290 :: y291 :: y292 :: y293 :: y294 :: y295 :: y296 :: y297 :: y298 :: y299 :: y300 :: y301 :: y302 :: y303 :: y304 :: y305 :: []), defers := [] } w) :
    Code.wp Yba.prog (lpOf Yba.f16.body 8) QQ { tmps := List.toArray ((.slice (some ⟨g, 0, none⟩) n c) :: y1 :: y2 :: (.int .i64 (n : Int)) :: y4 :: y5 :: (Pp AB) :: y7 :: y8 :: y9 :: y10 :: y11 :: y12 :: y13 :: y14 :: y15 :: y16 :: (.string (itS k)) :: (.int .i64 (a : Int)) :: (.int .i64 (b : Int)) :: y20 :: (.bool z1) :: y22 :: (.bool z3) :: (.int .i64 (p : Int)) :: y25 :: y26 :: y27 :: (.bool false) :: (.int .i64 0) :: y30 :: y31 :: y32 :: y33 :: y34 :: y35 :: y36 :: y37 :: y38 :: y39 :: y40 :: y41 :: y42 :: y43 :: y44 :: y45 :: y46 :: y47 :: y48 :: y49 :: y50 :: y51 :: y52 :: y53 :: y54 :: y55 :: y56 :: y57 :: y58 :: y59 :: y60 :: y61 :: y62 :: y63 :: y64 :: y65 :: y66 :: y67 :: y68 :: y69 :: y70 :: y71 :: y72 :: y73 :: y74 :: y75 :: y76 :: y77 :: y78 :: y79 :: y80 :: y81 :: y82 :: y83 :: y84 :: y85 :: y86 :: y87 :: y88 :: y89 :: y90 :: y91 :: y92 :: y93 :: y94 :: y95 :: y96 :: y97 :: y98 :: y99 :: y100 :: y101 :: y102 :: y103 :: y104 :: y105 :: y106 :: y107 :: y108 :: y109 :: y110 :: y111 :: y112 :: y113 :: y114 :: y115 :: y116 :: y117 :: y118 :: y119 :: y120 :: y121 :: y122 :: y123 :: y124 :: y125 :: y126 :: y127 :: y128 :: y129 :: y130 :: y131 :: y132 :: y133 :: y134 :: y135 :: y136 :: y137 :: y138 :: y139 :: y140 :: y141 :: y142 :: y143 :: y144 :: y145 :: y146 :: y147 :: y148 :: y149 :: y150 :: y151 :: y152 :: y153 :: y154 :: y155 :: y156 :: y157 :: y158 :: y159 :: y160 :: y161 :: y162 :: y163 :: y164 :: y165 :: y166 :: y167 :: y168 :: y169 :: y170 :: y171 :: y172 :: y173 :: y174 :: y175 :: y176 :: y177 :: y178 :: y179 :: y180 :: y181 :: y182 :: y183 :: y184 :: y185 :: y186 :: y187 :: y188 :: y189 :: y190 :: y191 :: y192 :: y193 :: y194 :: y195 :: y196 :: y197 :: y198 :: y199 :: y200 :: y201 :: y202 :: y203 :: y204 :: y205 :: y206 :: y207 :: y208 :: y209 :: y210 :: y211 :: y212 :: y213 :: y214 :: y215 :: y216 :: y217 :: y218 :: y219 :: y220 :: y221 :: y222 :: y223 :: y224 :: y225 :: y226 :: y227 :: y228 :: y229 :: y230 :: y231 :: y232 :: y233 :: y234 :: y235 :: y236 :: y237 :: y238 :: y239 :: y240 :: y241 :: y242 :: y243 :: y244 :: y245 :: y246 :: y247 :: y248 :: y249 :: y250 :: y251 :: y252 :: y253 :: y254 :: y255 :: y256 :: y257 :: y258 :: y259 :: y260 :: y261 :: y262 :: y263 :: y264 :: y265 :: y266 :: y267 :: y268 :: y269 :: y270 :: y271 :: y272 :: y273 :: y274 :: y275 :: y276 :: y277 :: y278 :: y279 :: y280 :: y281 :: y282 :: y283 :: y284 :: y285 :: y286 :: y287 :: y288 :: y289 :: y290 :: y291 :: y292 :: y293 :: y294 :: y295 :: y296 :: y297 :: y298 :: y299 :: y300 :: y301 :: y302 :: y303 :: y304 :: y305 :: []), defers := [] } w := by
  have HK := hide hK
  clear hK
  have H := hide h
  have HL := hide hl
  clear h hl
  conv => arg 2; whnf
  go_loopw [21, 23, 28, 29] (fun u1 u3 u v wx => ∃ (s : Nat) (x1 x3 x : Bool), s ≤ p ∧ u1 = .bool x1 ∧ u3 = .bool x3 ∧ u = .bool x ∧ v = .int .i64 (s : Int) ∧ (x = true ↔ ∃ q, q < s ∧ rdP L q a k) ∧ (x1 = true ↔ z1 = true ∨ ∃ q, q < s ∧ wrP L q b k ∧ p < sb ∧ ∃ x, x < q + 1 ∧ rdP L x a k) ∧ (x3 = true ↔ z3 = true ∨ ∃ q, q < s ∧ wrP L q b k ∧ p < sb) ∧ wx = w) (fun _ _ u v _ => p - (intOf v).toNat)
  case atStart => exact ⟨0, z1, z3, false, by omega, rfl, rfl, rfl, rfl, ⟨fun e => absurd e (by decide), fun ⟨q, e, _⟩ => by omega⟩, ⟨.inl, fun e => e.elim id fun ⟨q, e, _⟩ => by omega⟩, ⟨.inl, fun e => e.elim id fun ⟨q, e, _⟩ => by omega⟩, rfl⟩
  case round =>
    obtain ⟨s, x1, x3, x, hs, rfl, rfl, rfl, rfl, hx, hx1, hx3, hw⟩ := hrel
    subst hw
    by_cases hsp : s < p
    · have hsp' : (s : Int) < (p : Int) := by omega
      obtain ⟨o, ho⟩ := at_lt HL.out (show s < n by omega)
      have C := hide (br_at (cap := c) (t := a) wr H.out HL.out hk s o ho)
      have C2 := hide (bw_at (cap := c) (t := b) wr H.out HL.out hk s o ho)
      have RI := hide (rd_iff (t := a) (j := k) ho)
      have WI := hide (wr_iff (t := b) (j := k) ho)
      have HX := hide (ex_succ (P := fun q => rdP L q a k) (p := s))
      have HX1 := hide (ex_succ (P := fun q => wrP L q b k ∧ p < sb ∧ ∃ x, x < q + 1 ∧ rdP L x a k) (p := s))
      have HX3 := hide (ex_succ (P := fun q => wrP L q b k ∧ p < sb) (p := s))
      obtain ⟨ps, hps⟩ : ∃ ps : Bool, decide (p < sb) = ps := ⟨_, rfl⟩
      have FIN : Hid (∀ r r2 : Bool, (rdB o a k = r) → (wrB o b k = r2) → ((x || r) = true ↔ ∃ q, q < s + 1 ∧ rdP L q a k) ∧ ((x1 || (r2 && ps && (x || r))) = true ↔ z1 = true ∨ ∃ q, q < s + 1 ∧ wrP L q b k ∧ p < sb ∧ ∃ x, x < q + 1 ∧ rdP L x a k) ∧ ((x3 || (r2 && ps)) = true ↔ z3 = true ∨ ∃ q, q < s + 1 ∧ wrP L q b k ∧ p < sb)) := fun r r2 e1 e2 => by
        have R := RI.out
        have W := WI.out
        rw [e1] at R
        rw [e2] at W
        have PS : ps = true ↔ p < sb := by rw [← hps]; simp
        have A : (x || r) = true ↔ ∃ q, q < s + 1 ∧ rdP L q a k := by rw [HX.out, Bool.or_eq_true, hx, R]
        refine ⟨A, ?_, ?_⟩
        · rw [HX1.out, Bool.or_eq_true, hx1, Bool.and_eq_true, Bool.and_eq_true, A, W, PS, or_assoc]
          simp only [and_assoc]
        · rw [HX3.out, Bool.or_eq_true, hx3, Bool.and_eq_true, W, PS, or_assoc]
      clear hx hx1 hx3 ho RI WI HX HX1 HX3
      have hpb : ((p : Int) < (sb : Int)) = (p < sb) := by simp
      cases ps with
      | true =>
        have hgt : (p : Int) < (sb : Int) := by have := of_decide_eq_true hps; omega
        clear hps hpb
        cases hr : rdB o a k with
        | true =>
          cases hr2 : wrB o b k with
          | true =>
            have FF := hide (FIN.out _ _ hr hr2)
            rw [hr] at C
            rw [hr2] at C2
            clear FIN hr hr2
            go_wp2_with (first | (go_at_call 36; refine C.out.mono ?_; rintro e w' ⟨rfl, hw⟩; obtain rfl := hw.symm) | (go_at_call 35; refine C2.out.mono ?_; rintro e w' ⟨rfl, hw⟩; obtain rfl := hw.symm))
            go_roundw
            case rel => exact ⟨s + 1, true, true, true, by omega, rfl, rfl, rfl, by go_num, by simpa using FF.out.1, by simpa using FF.out.2.1, by simpa using FF.out.2.2, by first | rfl | trivial⟩
            case measure => simp [intOf]; omega
          | false =>
            have FF := hide (FIN.out _ _ hr hr2)
            rw [hr] at C
            rw [hr2] at C2
            clear FIN hr hr2
            go_wp2_with (first | (go_at_call 36; refine C.out.mono ?_; rintro e w' ⟨rfl, hw⟩; obtain rfl := hw.symm) | (go_at_call 35; refine C2.out.mono ?_; rintro e w' ⟨rfl, hw⟩; obtain rfl := hw.symm))
            go_roundw
            case rel => exact ⟨s + 1, x1, x3, true, by omega, rfl, rfl, rfl, by go_num, by simpa using FF.out.1, by simpa using FF.out.2.1, by simpa using FF.out.2.2, by first | rfl | trivial⟩
            case measure => simp [intOf]; omega
        | false =>
          cases hr2 : wrB o b k with
          | true =>
            have FF := hide (FIN.out _ _ hr hr2)
            rw [hr] at C
            rw [hr2] at C2
            clear FIN hr hr2
            cases x with
            | true =>
              go_wp2_with (first | (go_at_call 36; refine C.out.mono ?_; rintro e w' ⟨rfl, hw⟩; obtain rfl := hw.symm) | (go_at_call 35; refine C2.out.mono ?_; rintro e w' ⟨rfl, hw⟩; obtain rfl := hw.symm))
              go_roundw
              case rel => exact ⟨s + 1, true, true, true, by omega, rfl, rfl, rfl, by go_num, by simpa using FF.out.1, by simpa using FF.out.2.1, by simpa using FF.out.2.2, by first | rfl | trivial⟩
              case measure => simp [intOf]; omega
            | false =>
              go_wp2_with (first | (go_at_call 36; refine C.out.mono ?_; rintro e w' ⟨rfl, hw⟩; obtain rfl := hw.symm) | (go_at_call 35; refine C2.out.mono ?_; rintro e w' ⟨rfl, hw⟩; obtain rfl := hw.symm))
              go_roundw
              case rel => exact ⟨s + 1, x1, true, false, by omega, rfl, rfl, rfl, by go_num, by simpa using FF.out.1, by simpa using FF.out.2.1, by simpa using FF.out.2.2, by first | rfl | trivial⟩
              case measure => simp [intOf]; omega
          | false =>
            have FF := hide (FIN.out _ _ hr hr2)
            rw [hr] at C
            rw [hr2] at C2
            clear FIN hr hr2
            go_wp2_with (first | (go_at_call 36; refine C.out.mono ?_; rintro e w' ⟨rfl, hw⟩; obtain rfl := hw.symm) | (go_at_call 35; refine C2.out.mono ?_; rintro e w' ⟨rfl, hw⟩; obtain rfl := hw.symm))
            go_roundw
            case rel => exact ⟨s + 1, x1, x3, x, by omega, rfl, rfl, rfl, by go_num, by simpa using FF.out.1, by simpa using FF.out.2.1, by simpa using FF.out.2.2, by first | rfl | trivial⟩
            case measure => simp [intOf]; omega
      | false =>
        have hgt : ¬ (p : Int) < (sb : Int) := by have := of_decide_eq_false hps; omega
        clear hps hpb
        cases hr : rdB o a k with
        | true =>
          cases hr2 : wrB o b k with
          | true =>
            have FF := hide (FIN.out _ _ hr hr2)
            rw [hr] at C
            rw [hr2] at C2
            clear FIN hr hr2
            go_wp2_with (first | (go_at_call 36; refine C.out.mono ?_; rintro e w' ⟨rfl, hw⟩; obtain rfl := hw.symm) | (go_at_call 35; refine C2.out.mono ?_; rintro e w' ⟨rfl, hw⟩; obtain rfl := hw.symm))
            go_roundw
            case rel => exact ⟨s + 1, x1, x3, true, by omega, rfl, rfl, rfl, by go_num, by simpa using FF.out.1, by simpa using FF.out.2.1, by simpa using FF.out.2.2, by first | rfl | trivial⟩
            case measure => simp [intOf]; omega
          | false =>
            have FF := hide (FIN.out _ _ hr hr2)
            rw [hr] at C
            rw [hr2] at C2
            clear FIN hr hr2
            go_wp2_with (first | (go_at_call 36; refine C.out.mono ?_; rintro e w' ⟨rfl, hw⟩; obtain rfl := hw.symm) | (go_at_call 35; refine C2.out.mono ?_; rintro e w' ⟨rfl, hw⟩; obtain rfl := hw.symm))
            go_roundw
            case rel => exact ⟨s + 1, x1, x3, true, by omega, rfl, rfl, rfl, by go_num, by simpa using FF.out.1, by simpa using FF.out.2.1, by simpa using FF.out.2.2, by first | rfl | trivial⟩
            case measure => simp [intOf]; omega
        | false =>
          cases hr2 : wrB o b k with
          | true =>
            have FF := hide (FIN.out _ _ hr hr2)
            rw [hr] at C
            rw [hr2] at C2
            clear FIN hr hr2
            go_wp2_with (first | (go_at_call 36; refine C.out.mono ?_; rintro e w' ⟨rfl, hw⟩; obtain rfl := hw.symm) | (go_at_call 35; refine C2.out.mono ?_; rintro e w' ⟨rfl, hw⟩; obtain rfl := hw.symm))
            go_roundw
            case rel => exact ⟨s + 1, x1, x3, x, by omega, rfl, rfl, rfl, by go_num, by simpa using FF.out.1, by simpa using FF.out.2.1, by simpa using FF.out.2.2, by first | rfl | trivial⟩
            case measure => simp [intOf]; omega
          | false =>
            have FF := hide (FIN.out _ _ hr hr2)
            rw [hr] at C
            rw [hr2] at C2
            clear FIN hr hr2
            go_wp2_with (first | (go_at_call 36; refine C.out.mono ?_; rintro e w' ⟨rfl, hw⟩; obtain rfl := hw.symm) | (go_at_call 35; refine C2.out.mono ?_; rintro e w' ⟨rfl, hw⟩; obtain rfl := hw.symm))
            go_roundw
            case rel => exact ⟨s + 1, x1, x3, x, by omega, rfl, rfl, rfl, by go_num, by simpa using FF.out.1, by simpa using FF.out.2.1, by simpa using FF.out.2.2, by first | rfl | trivial⟩
            case measure => simp [intOf]; omega
    · obtain rfl : s = p := by omega
      have HX1 := hide hx1
      have HX3 := hide hx3
      clear hx hx1 hx3
      go_wp2
      exact HK.out _ _ _ _ _ _ _ _ _ _ _ _ _ _ _ _ _ _ _ _ _ _ _ _ _ x1 x3 HX1.out HX3.out

end Go.Proofs.Ybulkaggi.BM

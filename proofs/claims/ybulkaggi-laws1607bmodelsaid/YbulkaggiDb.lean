import Derived.Test.YbulkaggiDa
namespace Go.Proofs.Ybulkaggi.BM
open Go.RowKit Go.Proofs.Ybulkaggi
set_option linter.unusedVariables false
set_option maxRecDepth 100000

/-! ### The model's flags -/
def mL (E : Ev) (n p : Nat) : Prop := E.WA p ∧ E.bR p ∧ aft E.L E.b E.j p n
def mN (E : Ev) (p : Nat) : Prop := E.RA p ∧ ∃ q, q < p ∧ E.WB q ∧ p < E.s ∧ ∃ x, x < q + 1 ∧ E.RA x
def mB (E : Ev) (n p : Nat) : Prop := E.RA p ∧ ∃ q, q < n ∧ p < q ∧ E.WB q
def mA (E : Ev) (p : Nat) : Prop := E.RA p ∧ ∃ q, q < p ∧ E.WB q ∧ p < E.s
theorem mL_iff (E : Ev) (n : Nat) : (∃ p, p < n ∧ mL E n p) ↔ E.lost n :=
  ⟨fun ⟨p, h1, h2, h3, q, h4, h5, h6, h7⟩ => ⟨q, h5, h6, p, h4, h2, h3, h7⟩, fun ⟨q, h5, h6, p, h4, h2, h3, h7⟩ => ⟨p, by omega, h2, h3, q, h4, h5, h6, h7⟩⟩
theorem mB_iff (E : Ev) (n : Nat) : (∃ p, p < n ∧ mB E n p) ↔ E.rb n :=
  ⟨fun ⟨p, h1, h2, q, h3, h4, h5⟩ => ⟨q, h3, h5, p, h4, h2⟩, fun ⟨q, h3, h5, p, h4, h2⟩ => ⟨p, by omega, h2, q, h3, h4, h5⟩⟩
theorem mA_iff (E : Ev) (n : Nat) : (∃ p, p < n ∧ mA E p) ↔ E.ra n :=
  ⟨fun ⟨p, h1, h2, q, h3, h4, h5⟩ => ⟨p, h1, h2, h5, q, h3, h4⟩, fun ⟨p, h1, h2, h5, q, h3, h4⟩ => ⟨p, h1, h2, q, h3, h4, h5⟩⟩
theorem least {P : Nat → Prop} : ∀ n, P n → ∃ m, m ≤ n ∧ P m ∧ ∀ x, x < m → ¬ P x := fun n => by
  induction n using Nat.strongRecOn with
  | ind n ih =>
    intro h
    by_cases e : ∃ x, x < n ∧ P x
    · obtain ⟨x, h1, h2⟩ := e
      obtain ⟨m, g1, g2, g3⟩ := ih x h1 h2
      exact ⟨m, by omega, g2, g3⟩
    · exact ⟨n, Nat.le_refl _, h, fun x hx hp => e ⟨x, hx, hp⟩⟩
theorem mN_iff (E : Ev) (n : Nat) : (∃ p, p < n ∧ mN E p) ↔ E.non n := by
  constructor
  · rintro ⟨p, h1, h2, q, h3, h4, h5, x, h6, h7⟩
    obtain ⟨m, g1, ⟨g2, g3⟩, g4⟩ := least (P := fun y => q < y ∧ E.RA y) p ⟨h3, h2⟩
    refine ⟨m, by omega, g3, by omega, q, g2, h4, ⟨x, ?_, h7⟩, fun y hy hy2 hy3 => g4 y hy2 ⟨hy, hy3⟩⟩
    rcases Nat.lt_or_ge x q with e | e
    · exact e
    · obtain rfl : x = q := by omega
      exact absurd h4 (fun h => rd_not_wr h7 h)
  · rintro ⟨p, h1, h2, h5, q, h3, h4, ⟨x, h6, h7⟩, _⟩
    exact ⟨p, h1, h2, q, h3, h4, h5, x, by omega, h7⟩

set_option maxHeartbeats 8000000 in
theorem m_loop6 {QQ : Exit → Act → World → Prop} {g n c k a b AB sb : Nat} {L : List O3} {w : World} {y1 y2 y4 y5 y7 y8 y9 y10 y11 y12 y13 y14 y15 y16 y25 y26 y27 y28 y29 y30 y31 y32 y33 y34 y35 y36 y37 y38 y39 y40 y41 y42 y43 y44 y45 y46 y47 y48 y49 y50 y51 y52 y53 y54 y55 y56 y57 y58 y59 y60 y61 y62 y63 y64 y65 y66 y67 y68 y69 y70 y71 y72 y73 y74 y75 y76 y77 y78 y79 y80 y81 y82 y83 y84 y85 y86 y87 y88 y89 y90 y91 y92 y93 y94 y95 y96 y97 y98 y99 y100 y101 y102 y103 y104 y105 y106 y107 y108 y109 y110 y111 y112 y113 y114 y115 y116 y117 y118 y119 y120 y121 y122 y123 y124 y125 y126 y127 y128 y129 y130 y131 y132 y133 y134 y135 y136 y137 y138 y139 y140 y141 y142 y143 y144 y145 y146 y147 y148 y149 y150 y151 y152 y153 y154 y155 y156 y157 y158 y159 y160 y161 y162 y163 y164 y165 y166 y167 y168 y169 y170 y171 y172 y173 y174 y175 y176 y177 y178 y179 y180 y181 y182 y183 y184 y185 y186 y187 y188 y189 y190 y191 y192 y193 y194 y195 y196 y197 y198 y199 y200 y201 y202 y203 y204 y205 y206 y207 y208 y209 y210 y211 y212 y213 y214 y215 y216 y217 y218 y219 y220 y221 y222 y223 y224 y225 y226 y227 y228 y229 y230 y231 y232 y233 y234 y235 y236 y237 y238 y239 y240 y241 y242 y243 y244 y245 y246 y247 y248 y249 y250 y251 y252 y253 y254 y255 y256 y257 y258 y259 y260 y261 y262 y263 y264 y265 y266 y267 y268 y269 y270 y271 y272 y273 y274 y275 y276 y277 y278 y279 y280 y281 y282 y283 y284 y285 y286 y287 y288 y289 y290 y291 y292 y293 y294 y295 y296 y297 y298 y299 y300 y301 y302 y303 y304 y305 : Value}
    (hn : n ≤ 256) (hl : L.length = n) (h : OpsAt w g L) (hk : k < 3) (hb : b ≤ 4) (hsb : w.cell? ⟨AB, b, none⟩ = some (.int .i64 (sb : Int))) (hsn : sb ≤ 256)
    (hK : ∀ (t24 t25 t26 t27 t28 t29 t30 t131 t132 t133 t134 t135 t136 t137 t138 t139 t140 t141 t142 t143 t144 t145 t146 t147 t148 t149 t150 t151 t152 t153 t154 t155 t156 t157 t158 t159 t160 t161 t162 t163 t164 t165 t166 t167 t168 t169 t170 t171 t172 t173 t174 t175 t176 t177 t178 t179 t180 t181 t182 t183 t184 t185 t186 t187 t188 t189 t190 t191 t192 t193 t194 t195 t196 t197 t198 t199 t200 t201 t202 t203 t204 t205 t206 t207 t208 : Value) (v0 v1 v2 v3 : Bool), (v0 = true ↔ Ev.lost ⟨L, a, b, k, sb⟩ n) → (v1 = true ↔ Ev.non ⟨L, a, b, k, sb⟩ n) → (v2 = true ↔ Ev.rb ⟨L, a, b, k, sb⟩ n) → (v3 = true ↔ Ev.ra ⟨L, a, b, k, sb⟩ n) → QQ (.exit 10) { tmps := List.toArray ((.slice (some ⟨g, 0, none⟩) n c) :: y1 :: y2 :: (.int .i64 (n : Int)) :: y4 :: y5 :: (Pp AB) :: y7 :: y8 :: y9 :: y10 :: y11 :: y12 :: y13 :: y14 :: y15 :: y16 :: (.string (itS k)) :: (.int .i64 (a : Int)) :: (.int .i64 (b : Int)) :: (.bool v0) :: (.bool v1) :: (.bool v2) :: (.bool v3) :: (t24) :: (t25) :: (t26) :: (t27) :: (t28) :: (t29) :: (t30) :: y31 :: y32 :: y33 :: y34 :: y35 :: y36 :: y37 :: y38 :: y39 :: y40 :: y41 :: y42 :: y43 :: y44 :: y45 :: y46 :: y47 :: y48 :: y49 :: y50 :: y51 :: y52 :: y53 :: y54 :: y55 :: y56 :: y57 :: y58 :: y59 :: y60 :: y61 :: y62 :: y63 :: y64 :: y65 :: y66 :: y67 :: y68 :: y69 :: y70 :: y71 :: y72 :: y73 :: y74 :: y75 :: y76 :: y77 :: y78 :: y79 :: y80 :: y81 :: y82 :: y83 :: y84 :: y85 :: y86 :: y87 :: y88 :: y89 :: y90 :: y91 :: y92 :: y93 :: y94 :: y95 :: y96 :: y97 :: y98 :: y99 :: y100 :: y101 :: y102 :: y103 :: y104 :: y105 :: y106 :: y107 :: y108 :: y109 :: y110 :: y111 :: y112 :: y113 :: y114 :: y115 :: y116 :: y117 :: y118 :: y119 :: y120 :: y121 :: y122 :: y123 :: y124 :: y125 :: y126 :: y127 :: y128 :: y129 :: y130 :: (t131) :: (t132) :: (t133) :: (t134) :: (t135) :: (t136) :: (t137) :: (t138) :: (t139) :: (t140) :: (t141) :: (t142) :: (t143) :: (t144) :: (t145) :: (t146) :: (t147) :: (t148) :: (t149) :: (t150) :: (t151) :: (t152) :: (t153) :: (t154) :: (t155) :: (t156) :: (t157) :: (t158) :: (t159) :: (t160) :: (t161) :: (t162) :: (t163) :: (t164) :: (t165) :: (t166) :: (t167) :: (t168) :: (t169) :: (t170) :: (t171) :: (t172) :: (t173) :: (t174) :: (t175) :: (t176) :: (t177) :: (t178) :: (t179) :: (t180) :: (t181) :: (t182) :: (t183) :: (t184) :: (t185) :: (t186) :: (t187) :: (t188) :: (t189) :: (t190) :: (t191) :: (t192) :: (t193) :: (t194) :: (t195) :: (t196) :: (t197) :: (t198) :: (t199) :: (t200) :: (t201) :: (t202) :: (t203) :: (t204) :: (t205) :: (t206) :: (t207) :: (t208) :: y209 :: y210 :: y211 :: y212 :: y213 :: y214 :: y215 :: y216 :: y217 :: y218 :: y219 :: y220 :: y221 :: y222 :: y223 :: y224 :: y225 :: y226 :: y227 :: y228 :: y229 :: y230 :: y231 :: y232 :: y233 :: y234 :: y235 :: y236 :: y237 :: y238 :: y239 :: y240 :: y241 :: y242 :: y243 :: y244 :: y245 :: y246 :: y247 :: y248 :: y249 :: y250 :: y251 :: y252 :: y253 :: y254 :: y255 :: y256 :: y257 :: y258 :: y259 :: y260 :: y261 :: y262 :: y263 :: y264 :: y265 :: y266 :: y267 :: y268 :: y269 :: y270 :: y271 :: y272 :: y273 :: y274 :: y275 :: y276 :: y277 :: y278 :: y279 :: y280 :: y281 :: y282 :: y283 :: y284 :: y285 :: y286 :: y287 :: y288 :: y289 :: y290 :: y291 :: y292 :: y293 :: y294 :: y295 :: y296 :: y297 :: y298 :: y299 :: y300 :: y301 :: y302 :: y303 :: y304 :: y305 :: []), defers := [] } w) :
    Code.wp Yba.prog (lpOf Yba.f16.body 5) QQ { tmps := List.toArray ((.slice (some ⟨g, 0, none⟩) n c) :: y1 :: y2 :: (.int .i64 (n : Int)) :: y4 :: y5 :: (Pp AB) :: y7 :: y8 :: y9 :: y10 :: y11 :: y12 :: y13 :: y14 :: y15 :: y16 :: (.string (itS k)) :: (.int .i64 (a : Int)) :: (.int .i64 (b : Int)) :: (.bool false) :: (.bool false) :: (.bool false) :: (.bool false) :: (.int .i64 0) :: y25 :: y26 :: y27 :: y28 :: y29 :: y30 :: y31 :: y32 :: y33 :: y34 :: y35 :: y36 :: y37 :: y38 :: y39 :: y40 :: y41 :: y42 :: y43 :: y44 :: y45 :: y46 :: y47 :: y48 :: y49 :: y50 :: y51 :: y52 :: y53 :: y54 :: y55 :: y56 :: y57 :: y58 :: y59 :: y60 :: y61 :: y62 :: y63 :: y64 :: y65 :: y66 :: y67 :: y68 :: y69 :: y70 :: y71 :: y72 :: y73 :: y74 :: y75 :: y76 :: y77 :: y78 :: y79 :: y80 :: y81 :: y82 :: y83 :: y84 :: y85 :: y86 :: y87 :: y88 :: y89 :: y90 :: y91 :: y92 :: y93 :: y94 :: y95 :: y96 :: y97 :: y98 :: y99 :: y100 :: y101 :: y102 :: y103 :: y104 :: y105 :: y106 :: y107 :: y108 :: y109 :: y110 :: y111 :: y112 :: y113 :: y114 :: y115 :: y116 :: y117 :: y118 :: y119 :: y120 :: y121 :: y122 :: y123 :: y124 :: y125 :: y126 :: y127 :: y128 :: y129 :: y130 :: y131 :: y132 :: y133 :: y134 :: y135 :: y136 :: y137 :: y138 :: y139 :: y140 :: y141 :: y142 :: y143 :: y144 :: y145 :: y146 :: y147 :: y148 :: y149 :: y150 :: y151 :: y152 :: y153 :: y154 :: y155 :: y156 :: y157 :: y158 :: y159 :: y160 :: y161 :: y162 :: y163 :: y164 :: y165 :: y166 :: y167 :: y168 :: y169 :: y170 :: y171 :: y172 :: y173 :: y174 :: y175 :: y176 :: y177 :: y178 :: y179 :: y180 :: y181 :: y182 :: y183 :: y184 :: y185 :: y186 :: y187 :: y188 :: y189 :: y190 :: y191 :: y192 :: y193 :: y194 :: y195 :: y196 :: y197 :: y198 :: y199 :: y200 :: y201 :: y202 :: y203 :: y204 :: y205 :: y206 :: y207 :: y208 :: y209 :: y210 :: y211 :: y212 :: y213 :: y214 :: y215 :: y216 :: y217 :: y218 :: y219 :: y220 :: y221 :: y222 :: y223 :: y224 :: y225 :: y226 :: y227 :: y228 :: y229 :: y230 :: y231 :: y232 :: y233 :: y234 :: y235 :: y236 :: y237 :: y238 :: y239 :: y240 :: y241 :: y242 :: y243 :: y244 :: y245 :: y246 :: y247 :: y248 :: y249 :: y250 :: y251 :: y252 :: y253 :: y254 :: y255 :: y256 :: y257 :: y258 :: y259 :: y260 :: y261 :: y262 :: y263 :: y264 :: y265 :: y266 :: y267 :: y268 :: y269 :: y270 :: y271 :: y272 :: y273 :: y274 :: y275 :: y276 :: y277 :: y278 :: y279 :: y280 :: y281 :: y282 :: y283 :: y284 :: y285 :: y286 :: y287 :: y288 :: y289 :: y290 :: y291 :: y292 :: y293 :: y294 :: y295 :: y296 :: y297 :: y298 :: y299 :: y300 :: y301 :: y302 :: y303 :: y304 :: y305 :: []), defers := [] } w := by
  have HK := hide hK
  clear hK
  have H := hide h
  have HL := hide hl
  clear h hl
  conv => arg 2; whnf
  obtain ⟨E, hE⟩ : ∃ E : Ev, E = ⟨L, a, b, k, sb⟩ := ⟨_, rfl⟩
  have HE := hide hE
  clear hE
  go_loopw [20, 21, 22, 23, 24] (fun u0 u1 u2 u3 v wx => ∃ (p : Nat) (z0 z1 z2 z3 : Bool), p ≤ n ∧ u0 = .bool z0 ∧ u1 = .bool z1 ∧ u2 = .bool z2 ∧ u3 = .bool z3 ∧ v = .int .i64 (p : Int) ∧ (z0 = true ↔ ∃ x, x < p ∧ mL E n x) ∧ (z1 = true ↔ ∃ x, x < p ∧ mN E x) ∧ (z2 = true ↔ ∃ x, x < p ∧ mB E n x) ∧ (z3 = true ↔ ∃ x, x < p ∧ mA E x) ∧ wx = w) (fun _ _ _ _ v _ => n - (intOf v).toNat)
  case atStart => exact ⟨0, false, false, false, false, by omega, rfl, rfl, rfl, rfl, rfl, ⟨fun e => absurd e (by decide), fun ⟨q, e, _⟩ => by omega⟩, ⟨fun e => absurd e (by decide), fun ⟨q, e, _⟩ => by omega⟩, ⟨fun e => absurd e (by decide), fun ⟨q, e, _⟩ => by omega⟩, ⟨fun e => absurd e (by decide), fun ⟨q, e, _⟩ => by omega⟩, rfl⟩
  case round =>
    obtain ⟨p, z0, z1, z2, z3, hp, rfl, rfl, rfl, rfl, rfl, hz0, hz1, hz2, hz3, hw⟩ := hrel
    subst hw
    by_cases hsp : p < n
    · have hsp' : (p : Int) < (n : Int) := by omega
      obtain ⟨o, ho⟩ := at_lt HL.out hsp
      have C := hide (bw_at (cap := c) (t := a) wr H.out HL.out hk p o ho)
      have C2 := hide (br_at (cap := c) (t := a) wr H.out HL.out hk p o ho)
      have RI := hide (rd_iff (t := a) (j := k) ho)
      have WI := hide (wr_iff (t := a) (j := k) ho)
      have Z := hide (And.intro hz0 (And.intro hz1 (And.intro hz2 hz3)))
      clear hz0 hz1 hz2 hz3 ho
      generalize rdB o a k = r at *
      generalize wrB o a k = r2 at *
      go_upto_if 140 with (go_at_call 35; refine C.out.mono ?_; rintro e w' ⟨rfl, hw⟩; obtain rfl := hw.symm)
      go_cut [20] from 131 to 208 (fun v wx => ∃ x : Bool, v = .bool x ∧ (x = true ↔ ∃ y, y < p + 1 ∧ mL E n y) ∧ wx = wr)
      case first =>
        cases r2 with
        | false =>
          have FN : Hid (z0 = true ↔ ∃ y, y < p + 1 ∧ mL E n y) := by
            rw [show (z0 = true ↔ ∃ y, y < p + 1 ∧ mL E n y) = (z0 = true ↔ (∃ y, y < p ∧ mL E n y) ∨ mL E n p) by rw [ex_succ (P := mL E n)], Z.out.1]
            exact ⟨.inl, fun e => e.elim id fun e => by
              have e1 := e.1
              rw [HE.out] at e1
              exact absurd (WI.out.2 e1) (by decide)⟩
          go_wp2
          go_meet
          exact ⟨z0, rfl, FN.out, by first | rfl | trivial⟩
        | true =>
          have FN : Hid (∀ x y : Bool, (x = true ↔ ∃ q, q < p ∧ rdP L q b k) → (y = true ↔ z0 = true ∨ (x = true ∧ aft L b k p n)) → (y = true ↔ ∃ y, y < p + 1 ∧ mL E n y)) := fun x y e1 e2 => by
            rw [e2, e1, Z.out.1, ex_succ (P := mL E n)]
            have W := WI.out.1 rfl
            unfold mL
            rw [HE.out]
            exact or_congr Iff.rfl ⟨fun e => ⟨W, e.1, e.2⟩, fun e => e.2⟩
          clear WI Z
          go_upto_region 42 with fail
          refine m_loop7 (g := g) (n := n) (c := c) (k := k) (a := a) (b := b) (p := p) (L := L) hn HL.out H.out hk hsp ?_
          intro t26 t141 t142 t143 t144 t145 t146 t147 t148 t149 t150 x hx
          cases x with
          | false =>
            have FF := hide (FN.out false z0 hx ⟨.inl, fun e => e.elim id fun e => absurd e.1 (by decide)⟩)
            clear FN hx
            go_wp2
            go_meet
            exact ⟨z0, rfl, FF.out, by first | rfl | trivial⟩
          | true =>
            have FN2 := hide (fun y => FN.out true y hx)
            clear FN hx
            go_upto_region 48 with fail
            refine m_loop8 (g := g) (n := n) (c := c) (k := k) (a := a) (b := b) (p := p) (L := L) hn HL.out H.out hk hsp ?_
            intro t27 t154 t155 t156 t157 t158 t159 t160 t161 t162 t163 t164 t165 t166 t167 t168 y hy
            have FF := hide (FN2.out y (hy.trans ⟨fun e => e.elim .inl fun e => .inr ⟨by first | rfl | trivial, e⟩, fun e => e.elim .inl fun e => .inr e.2⟩))
            clear FN2 hy
            go_wp2
            go_meet
            exact ⟨y, rfl, FF.out, by first | rfl | trivial⟩
      case rest =>
        obtain ⟨y0, rfl, hy0, rfl⟩ := hcut
        have HY := hide hy0
        clear hy0 C WI
        have FN : Hid (r = false → (z1 = true ↔ ∃ x, x < p + 1 ∧ mN E x) ∧ (z2 = true ↔ ∃ x, x < p + 1 ∧ mB E n x) ∧ (z3 = true ↔ ∃ x, x < p + 1 ∧ mA E x)) := fun er => by
          have W : ¬ rdP L p a k := fun e => by rw [RI.out.2 e] at er; cases er
          rw [Z.out.2.1, Z.out.2.2.1, Z.out.2.2.2, ex_succ (P := mN E), ex_succ (P := mB E n), ex_succ (P := mA E)]
          unfold mN mB mA
          rw [HE.out]
          exact ⟨⟨.inl, fun e => e.elim id fun e => absurd e.1 W⟩, ⟨.inl, fun e => e.elim id fun e => absurd e.1 W⟩, ⟨.inl, fun e => e.elim id fun e => absurd e.1 W⟩⟩
        have FT : Hid (r = true → ∀ v1 v2 v3 : Bool, (v1 = true ↔ z1 = true ∨ ∃ q, q < p ∧ wrP L q b k ∧ p < sb ∧ ∃ x, x < q + 1 ∧ rdP L x a k) → (v3 = true ↔ z3 = true ∨ ∃ q, q < p ∧ wrP L q b k ∧ p < sb) → (v2 = true ↔ z2 = true ∨ ∃ q, q < n ∧ p < q ∧ wrP L q b k) → (v1 = true ↔ ∃ x, x < p + 1 ∧ mN E x) ∧ (v2 = true ↔ ∃ x, x < p + 1 ∧ mB E n x) ∧ (v3 = true ↔ ∃ x, x < p + 1 ∧ mA E x)) := fun er v1 v2 v3 e1 e3 e2 => by
          have W : rdP L p a k := RI.out.1 er
          rw [e1, e2, e3, Z.out.2.1, Z.out.2.2.1, Z.out.2.2.2, ex_succ (P := mN E), ex_succ (P := mB E n), ex_succ (P := mA E)]
          unfold mN mB mA
          rw [HE.out]
          exact ⟨or_congr Iff.rfl ⟨fun e => ⟨W, e⟩, fun e => e.2⟩, or_congr Iff.rfl ⟨fun e => ⟨W, e⟩, fun e => e.2⟩, or_congr Iff.rfl ⟨fun e => ⟨W, e⟩, fun e => e.2⟩⟩
        clear RI Z
        cases r with
        | false =>
          have FF := hide (FN.out rfl)
          clear FN FT
          go_wp2_with (go_at_call 36; refine C2.out.mono ?_; rintro e w' ⟨rfl, hw⟩; obtain rfl := hw.symm)
          go_roundw
          case rel => exact ⟨p + 1, y0, z1, z2, z3, by omega, rfl, rfl, rfl, rfl, by go_num, HY.out, FF.out.1, FF.out.2.1, FF.out.2.2, by first | rfl | trivial⟩
          case measure => simp [intOf]; omega
        | true =>
          have FF := hide (FT.out rfl)
          clear FN FT
          go_upto_region 56 with (go_at_call 36; refine C2.out.mono ?_; rintro e w' ⟨rfl, hw⟩; obtain rfl := hw.symm)
          refine m_loop9 (g := g) (n := n) (c := c) (k := k) (a := a) (b := b) (p := p) (L := L) (AB := AB) (sb := sb) hn HL.out H.out hk hsp hb hsb hsn ?_
          intro t28 t29 t174 t175 t176 t177 t178 t179 t180 t181 t182 t183 t184 t185 t186 t187 t188 t189 t190 t191 t192 t193 t194 t195 t196 v1 v3 hv1 hv3
          have FF2 := hide (fun v2 => FF.out v1 v2 v3 hv1 hv3)
          clear FF hv1 hv3
          go_upto_region 65 with fail
          refine m_loop10 (g := g) (n := n) (c := c) (k := k) (a := a) (b := b) (p := p) (L := L) hn HL.out H.out hk hsp ?_
          intro t30 t199 t200 t201 t202 t203 t204 t205 t206 t207 t208 v2 hv2
          have FF3 := hide (FF2.out v2 hv2)
          clear FF2 hv2
          go_wp2
          go_roundw
          case rel => exact ⟨p + 1, y0, v1, v2, v3, by omega, rfl, rfl, rfl, rfl, by go_num, HY.out, FF3.out.1, FF3.out.2.1, FF3.out.2.2, by first | rfl | trivial⟩
          case measure => simp [intOf]; omega
    · obtain rfl : p = n := by omega
      have G0 := hide (hz0.trans (mL_iff E p))
      have G1 := hide (hz1.trans (mN_iff E p))
      have G2 := hide (hz2.trans (mB_iff E p))
      have G3 := hide (hz3.trans (mA_iff E p))
      clear hz0 hz1 hz2 hz3
      rw [HE.out] at G0 G1 G2 G3
      go_wp2
      exact HK.out _ _ _ _ _ _ _ _ _ _ _ _ _ _ _ _ _ _ _ _ _ _ _ _ _ _ _ _ _ _ _ _ _ _ _ _ _ _ _ _ _ _ _ _ _ _ _ _ _ _ _ _ _ _ _ _ _ _ _ _ _ _ _ _ _ _ _ _ _ _ _ _ _ _ _ _ _ _ _ _ _ _ _ _ _ z0 z1 z2 z3 G0.out G1.out G2.out G3.out

end Go.Proofs.Ybulkaggi.BM

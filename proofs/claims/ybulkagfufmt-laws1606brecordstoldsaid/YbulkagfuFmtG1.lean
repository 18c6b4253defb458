import Derived.Test.YbulkagfuFmtG2
namespace Go.Proofs.YbulkagfuFmt
open Go.RowKit Go.WideMaps Go.Maps Go.Extern.Stop Go.Stop Go.Extern Go.MuLone
set_option linter.unusedVariables false
set_option maxRecDepth 100000

def nmB : Nat → ByteArray
  | 0 => ⟨#[97]⟩
  | 1 => ⟨#[98]⟩
  | 2 => ⟨#[99]⟩
  | 3 => ⟨#[100]⟩
  | _ => ⟨#[120]⟩
abbrev namesC : Array Value := #[.string ⟨#[97]⟩, .string ⟨#[98]⟩, .string ⟨#[99]⟩, .string ⟨#[100]⟩, .string ⟨#[120]⟩]
theorem names_at (j : Nat) (h : j ≤ 4) : namesC[j]? = some (.string (nmB j)) := by
  rcases (by omega : j = 0 ∨ j = 1 ∨ j = 2 ∨ j = 3 ∨ j = 4) with rfl | rfl | rfl | rfl | rfl <;> rfl
theorem nmB_size (j : Nat) : (nmB j).size ≤ maxLen := by
  unfold nmB
  split <;> (unfold maxLen; decide)
def nk (j : Nat) : Lit := .string (nmB j).data.toList
theorem nk_inj (i j : Nat) (hi : i ≤ 4) (hj : j ≤ 4) (h : nk i = nk j) : i = j := by
  rcases (by omega : i = 0 ∨ i = 1 ∨ i = 2 ∨ i = 3 ∨ i = 4) with rfl | rfl | rfl | rfl | rfl <;> rcases (by omega : j = 0 ∨ j = 1 ∨ j = 2 ∨ j = 3 ∨ j = 4) with rfl | rfl | rfl | rfl | rfl <;> simp [nk, nmB] at h ⊢
theorem nk_key (i : Nat) : WideAt.IsKeyLit (nk i) := by simp [nk, WideAt.IsKeyLit]
/-- What the map of channels reads as behind j rounds. -/
def DN : Nat → DataW Unit
  | 0 => .map []
  | k + 1 => (DN k).put (nk k) (.lit (.int .i64 (k : Nat)))
theorem DN_map : ∀ k, IsMap (DN k)
  | 0 => isMap_empty
  | k + 1 => (DN_map k).put _ _
theorem DN_hit : ∀ n c, n ≤ 4 → c < n → (DN n).atKey (nk c) (.lit (.int .i64 0)) = .lit (.int .i64 c) ∧ Maps.has (DN n) (nk c) = true
  | 0, c, _, h => absurd h (by omega)
  | n + 1, c, hn, h => by
    by_cases e : c = n
    · subst e
      exact ⟨atKey_put_same (DN_map c) (nk_key c) _ _, has_put_same (DN_map c) (nk_key c) _⟩
    · have hne : nk c ≠ nk n := fun h' => e (nk_inj c n (by omega) (by omega) h')
      obtain ⟨h1, h2⟩ := DN_hit n c (by omega) (by omega)
      simp only [DN]
      rw [atKey_put_other hne, has_put_other hne]
      exact ⟨h1, h2⟩
theorem DN_miss : ∀ n c, n ≤ c → c ≤ 4 → Maps.has (DN n) (nk c) = false
  | 0, c, _, _ => rfl
  | n + 1, c, h, hc => by
    have hne : nk c ≠ nk n := fun h' => by have := nk_inj c n (by omega) (by omega) h'; omega
    simp only [DN]
    rw [has_put_other hne]
    exact DN_miss n c (by omega) hc

set_option maxHeartbeats 4000000 in
theorem loop1 {QQ : Exit → Act → World → Prop} {n nb ib : Nat} {tg : TypeId} {w : World} {y0 y1 y2 y3 y4 y5 y6 y7 y8 y9 y10 y11 y12 y14 y18 y19 y20 y21 y22 y23 y24 y25 y26 y27 y28 y29 y30 y31 y32 y33 y34 y35 y36 y37 y38 y39 y40 y41 y42 y43 y44 y45 y46 y47 y48 y49 y50 y51 y52 y53 y54 y55 y56 y57 y58 y59 y60 y61 y62 y63 y64 y65 y66 y67 y68 y69 y70 y71 y72 y73 y74 y75 y76 y77 y78 y79 y80 y81 y82 y83 y84 y85 y86 y87 y88 y89 y90 y91 y92 y93 y94 y95 y96 y97 y98 y99 y100 y101 y102 y103 y104 y105 y106 y107 y108 y109 y110 y111 y112 y113 y114 y115 y116 y117 y118 y119 y120 y121 y122 y123 y124 y125 y126 y127 y128 y129 y130 y131 y132 y133 y134 y135 y136 y137 y138 y139 y140 y141 y142 y143 y144 y145 y146 y147 y148 y149 y150 y151 y152 y153 y154 y155 y156 y157 y158 y159 y160 y161 y162 y163 y164 y165 y166 y167 y168 y169 y170 y171 y172 y173 y174 y175 y176 y177 y178 y179 y180 y181 y182 y183 y184 y185 y186 y187 y188 y189 y190 y191 y192 y193 y194 y195 y196 y197 y198 y199 y200 y201 y202 y203 y204 y205 y206 y207 y208 y209 y210 y211 y212 y213 y214 y215 y216 y217 y218 y219 y220 y221 y222 y223 y224 y225 y226 y227 y228 y229 y230 y231 y232 y233 y234 y235 y236 y237 y238 y239 y240 y241 y242 y243 y244 y245 y246 y247 y248 y249 y250 y251 y252 y253 y254 y255 y256 y257 y258 y259 y260 y261 y262 y263 y264 y265 y266 y267 y268 y269 y270 y271 y272 y273 y274 y275 y276 y277 y278 y279 y280 y281 y282 y283 y284 y285 y286 y287 y288 y289 : Value}
    (hn : n ≤ 4) (hN : w.heap[nb]? = some (.cells namesC tg (0, 0))) (hI : w.ownsMap Ybaf.prog 9 (plainElem Ybaf.prog 3) ib 0 (DN 0))
    (hK : ∀ (t17 t51 t52 t53 t54 t55 t56 t57 t58 t59 t60 : Value) (wx : World), wx.ownsMap Ybaf.prog 9 (plainElem Ybaf.prog 3) ib n (DN n) → But (fun k => k = ib) w wx → QQ (.exit 0) { tmps := List.toArray (y0 :: y1 :: y2 :: y3 :: y4 :: y5 :: y6 :: y7 :: y8 :: y9 :: y10 :: y11 :: y12 :: (.int .i64 (n : Int)) :: y14 :: (.pointer (some ⟨nb, 0, none⟩)) :: (.map (some ib)) :: (t17) :: y18 :: y19 :: y20 :: y21 :: y22 :: y23 :: y24 :: y25 :: y26 :: y27 :: y28 :: y29 :: y30 :: y31 :: y32 :: y33 :: y34 :: y35 :: y36 :: y37 :: y38 :: y39 :: y40 :: y41 :: y42 :: y43 :: y44 :: y45 :: y46 :: y47 :: y48 :: y49 :: y50 :: (t51) :: (t52) :: (t53) :: (t54) :: (t55) :: (t56) :: (t57) :: (t58) :: (t59) :: (t60) :: y61 :: y62 :: y63 :: y64 :: y65 :: y66 :: y67 :: y68 :: y69 :: y70 :: y71 :: y72 :: y73 :: y74 :: y75 :: y76 :: y77 :: y78 :: y79 :: y80 :: y81 :: y82 :: y83 :: y84 :: y85 :: y86 :: y87 :: y88 :: y89 :: y90 :: y91 :: y92 :: y93 :: y94 :: y95 :: y96 :: y97 :: y98 :: y99 :: y100 :: y101 :: y102 :: y103 :: y104 :: y105 :: y106 :: y107 :: y108 :: y109 :: y110 :: y111 :: y112 :: y113 :: y114 :: y115 :: y116 :: y117 :: y118 :: y119 :: y120 :: y121 :: y122 :: y123 :: y124 :: y125 :: y126 :: y127 :: y128 :: y129 :: y130 :: y131 :: y132 :: y133 :: y134 :: y135 :: y136 :: y137 :: y138 :: y139 :: y140 :: y141 :: y142 :: y143 :: y144 :: y145 :: y146 :: y147 :: y148 :: y149 :: y150 :: y151 :: y152 :: y153 :: y154 :: y155 :: y156 :: y157 :: y158 :: y159 :: y160 :: y161 :: y162 :: y163 :: y164 :: y165 :: y166 :: y167 :: y168 :: y169 :: y170 :: y171 :: y172 :: y173 :: y174 :: y175 :: y176 :: y177 :: y178 :: y179 :: y180 :: y181 :: y182 :: y183 :: y184 :: y185 :: y186 :: y187 :: y188 :: y189 :: y190 :: y191 :: y192 :: y193 :: y194 :: y195 :: y196 :: y197 :: y198 :: y199 :: y200 :: y201 :: y202 :: y203 :: y204 :: y205 :: y206 :: y207 :: y208 :: y209 :: y210 :: y211 :: y212 :: y213 :: y214 :: y215 :: y216 :: y217 :: y218 :: y219 :: y220 :: y221 :: y222 :: y223 :: y224 :: y225 :: y226 :: y227 :: y228 :: y229 :: y230 :: y231 :: y232 :: y233 :: y234 :: y235 :: y236 :: y237 :: y238 :: y239 :: y240 :: y241 :: y242 :: y243 :: y244 :: y245 :: y246 :: y247 :: y248 :: y249 :: y250 :: y251 :: y252 :: y253 :: y254 :: y255 :: y256 :: y257 :: y258 :: y259 :: y260 :: y261 :: y262 :: y263 :: y264 :: y265 :: y266 :: y267 :: y268 :: y269 :: y270 :: y271 :: y272 :: y273 :: y274 :: y275 :: y276 :: y277 :: y278 :: y279 :: y280 :: y281 :: y282 :: y283 :: y284 :: y285 :: y286 :: y287 :: y288 :: y289 :: []), defers := [] } wx) :
    Code.wp Ybaf.prog (lpOf Ybaf.f3.body 0) QQ { tmps := List.toArray (y0 :: y1 :: y2 :: y3 :: y4 :: y5 :: y6 :: y7 :: y8 :: y9 :: y10 :: y11 :: y12 :: (.int .i64 (n : Int)) :: y14 :: (.pointer (some ⟨nb, 0, none⟩)) :: (.map (some ib)) :: (.int .i64 0) :: y18 :: y19 :: y20 :: y21 :: y22 :: y23 :: y24 :: y25 :: y26 :: y27 :: y28 :: y29 :: y30 :: y31 :: y32 :: y33 :: y34 :: y35 :: y36 :: y37 :: y38 :: y39 :: y40 :: y41 :: y42 :: y43 :: y44 :: y45 :: y46 :: y47 :: y48 :: y49 :: y50 :: y51 :: y52 :: y53 :: y54 :: y55 :: y56 :: y57 :: y58 :: y59 :: y60 :: y61 :: y62 :: y63 :: y64 :: y65 :: y66 :: y67 :: y68 :: y69 :: y70 :: y71 :: y72 :: y73 :: y74 :: y75 :: y76 :: y77 :: y78 :: y79 :: y80 :: y81 :: y82 :: y83 :: y84 :: y85 :: y86 :: y87 :: y88 :: y89 :: y90 :: y91 :: y92 :: y93 :: y94 :: y95 :: y96 :: y97 :: y98 :: y99 :: y100 :: y101 :: y102 :: y103 :: y104 :: y105 :: y106 :: y107 :: y108 :: y109 :: y110 :: y111 :: y112 :: y113 :: y114 :: y115 :: y116 :: y117 :: y118 :: y119 :: y120 :: y121 :: y122 :: y123 :: y124 :: y125 :: y126 :: y127 :: y128 :: y129 :: y130 :: y131 :: y132 :: y133 :: y134 :: y135 :: y136 :: y137 :: y138 :: y139 :: y140 :: y141 :: y142 :: y143 :: y144 :: y145 :: y146 :: y147 :: y148 :: y149 :: y150 :: y151 :: y152 :: y153 :: y154 :: y155 :: y156 :: y157 :: y158 :: y159 :: y160 :: y161 :: y162 :: y163 :: y164 :: y165 :: y166 :: y167 :: y168 :: y169 :: y170 :: y171 :: y172 :: y173 :: y174 :: y175 :: y176 :: y177 :: y178 :: y179 :: y180 :: y181 :: y182 :: y183 :: y184 :: y185 :: y186 :: y187 :: y188 :: y189 :: y190 :: y191 :: y192 :: y193 :: y194 :: y195 :: y196 :: y197 :: y198 :: y199 :: y200 :: y201 :: y202 :: y203 :: y204 :: y205 :: y206 :: y207 :: y208 :: y209 :: y210 :: y211 :: y212 :: y213 :: y214 :: y215 :: y216 :: y217 :: y218 :: y219 :: y220 :: y221 :: y222 :: y223 :: y224 :: y225 :: y226 :: y227 :: y228 :: y229 :: y230 :: y231 :: y232 :: y233 :: y234 :: y235 :: y236 :: y237 :: y238 :: y239 :: y240 :: y241 :: y242 :: y243 :: y244 :: y245 :: y246 :: y247 :: y248 :: y249 :: y250 :: y251 :: y252 :: y253 :: y254 :: y255 :: y256 :: y257 :: y258 :: y259 :: y260 :: y261 :: y262 :: y263 :: y264 :: y265 :: y266 :: y267 :: y268 :: y269 :: y270 :: y271 :: y272 :: y273 :: y274 :: y275 :: y276 :: y277 :: y278 :: y279 :: y280 :: y281 :: y282 :: y283 :: y284 :: y285 :: y286 :: y287 :: y288 :: y289 :: []), defers := [] } w := by
  have HK := hide hK
  clear hK
  conv => arg 2; whnf
  go_loopw [17] (fun v wx => ∃ j : Nat, j ≤ n ∧ v = .int .i64 (j : Int) ∧ wx.ownsMap Ybaf.prog 9 (plainElem Ybaf.prog 3) ib j (DN j) ∧ But (fun k => k = ib) w wx) (fun v _ => n - (intOf v).toNat)
  case atStart => exact ⟨0, by omega, rfl, hI, But.refl _ _⟩
  case round =>
    obtain ⟨j, hj, rfl, h1, h2⟩ := hrel
    by_cases hjn : j < n
    · have hjn' : (j : Int) < (n : Int) := by omega
      have hnb : nb < w.heap.size := (Array.getElem?_eq_some_iff.1 hN).1
      have hne : ib ≠ nb := map_ne hN hI
      have hN1 : wr.heap[nb]? = some (.cells namesC tg (0, 0)) := (h2.block nb hnb (fun e => hne e.symm)).trans hN
      have c1 := (cell_at hN1 j).trans (names_at j (by omega))
      obtain ⟨W2, hrun, hI2, hg2⟩ := h1.update (t := 24) (e := 3) lawS Ybaf.underlying24 (by unfold maxLen; omega) (key := .string (nmB j)) (val := .int .i64 (j : Int)) (kl := nk j) (d := .lit (.int .i64 (j : Nat))) (ps := []) (Go.WideMaps.keyOf_string_mk Ybaf.underlying9 (nmB_size j)) (plainElem_int Ybaf.underlying3 (by rcases (by omega : j = 0 ∨ j = 1 ∨ j = 2 ∨ j = 3) with rfl | rfl | rfl | rfl <;> rfl))
      have K1 := hide hI2
      have K2 := hide (h2.grown hg2 (fun k hk => by simpa using hk.symm))
      clear hI2 hg2 h1 h2 hN1
      go_wp2
      go_roundw
      case rel => exact ⟨j + 1, by omega, by simp, K1.out, K2.out⟩
      case measure => simp [intOf]; omega
    · have e : j = n := by omega
      subst e
      go_wp2
      exact HK.out _ _ _ _ _ _ _ _ _ _ _ _ h1 h2

end Go.Proofs.YbulkagfuFmt

import Derived.Test.YbulkaggiDe
namespace Go.Proofs.Ybulkaggi.BM
open Go.RowKit Go.Proofs.Ybulkaggi Go.Sort Go.Shelf Go.Lib
open Go.Proofs.Ybulkaggi.CE (hlt tag_ne own_tag own_keep size_set info_at rgOf)
set_option linter.unusedVariables false
set_option maxRecDepth 100000

def updA {α : Type} (f : Nat → α) (t : Nat) (x : α) : Nat → α := fun u => if u = t then x else f u
theorem Ar.set {w : World} {B : Nat} {tg : TypeId} {α : Type} {e : α → Value} {f : Nat → α} (h : Ar w B tg (fun t => e (f t))) {t : Nat} (ht : t ≤ 4) (x : α) : Ar (w.setCell ⟨B, t, none⟩ (e x)) B tg (fun u => e (updA f t x u)) := by
  obtain ⟨cs, h1, h2⟩ := h
  refine ⟨_, heap_setCell_same w B _ cs tg _ h1, fun u hu => ?_⟩
  have hs : t < cs.size := (Array.getElem?_eq_some_iff.1 (h2 t ht)).1
  unfold updA
  by_cases e1 : u = t
  · subst e1
    simp [hs]
  · show _ = some (e (if u = t then x else f u))
    rw [if_neg e1, Array.getElem?_setIfInBounds, if_neg (Ne.symm e1)]
    exact h2 u hu
theorem Ar.other {w : World} {B B' : Nat} {tg : TypeId} {v : Nat → Value} (h : Ar w B tg v) (hne : B ≠ B') (o : Nat) (x : Value) : Ar (w.setCell ⟨B', o, none⟩ x) B tg v := by
  obtain ⟨cs, h1, h2⟩ := h
  exact ⟨cs, (Below.heap_setCell w ⟨B', o, none⟩ x B hne).trans h1, h2⟩
theorem Ar.dN {w : World} {B : Nat} {tg : TypeId} {v : Nat → Value} (h : Ar w B tg v) (k : Nat) : Ar (w.drewN k) B tg v := h
theorem Ar.al {w : World} {B : Nat} {tg : TypeId} {v : Nat → Value} (h : Ar w B tg v) (o : Obj) : Ar (w.alloc o) B tg v := by
  obtain ⟨cs, h1, h2⟩ := h
  exact ⟨cs, (Below.heap_alloc w o B (hlt h1)).trans h1, h2⟩
theorem below_set2 {N : Nat} {a w : World} (h : Below N a w) {B : Nat} (hB : N ≤ B) (o : Nat) (x : Value) : Below N a (w.setCell ⟨B, o, none⟩ x) :=
  h.trans ⟨rfl, rfl, rfl, by simp [World.setCell], fun i hi => Below.heap_setCell w ⟨B, o, none⟩ x i (fun e => by simp only at e; omega)⟩

set_option maxHeartbeats 4000000 in
theorem m_loop1 {QQ : Exit → Act → World → Prop} {N n AB : Nat} {f : Nat → Nat} {w : World} {y0 y1 y2 y4 y5 y7 y9 y10 y11 y12 y13 y14 y15 y16 y17 y18 y19 y20 y21 y22 y23 y24 y25 y26 y27 y28 y29 y30 y31 y32 y33 y34 y35 y36 y37 y38 y39 y40 y41 y42 y43 y44 y45 y46 y47 y48 y49 y50 y51 y52 y53 y54 y55 y56 y57 y58 y59 y60 y61 y62 y63 y64 y65 y66 y67 y68 y69 y70 y71 y72 y73 y74 y75 y76 y77 y78 y79 y80 y81 y82 y83 y84 y85 y86 y87 y88 y89 y90 y91 y92 y93 y94 y95 y96 y97 y98 y99 y100 y101 y102 y103 y104 y105 y106 y107 y108 y109 y110 y111 y112 y113 y114 y115 y116 y117 y118 y119 y120 y121 y122 y123 y124 y125 y126 y127 y128 y129 y130 y131 y132 y133 y134 y135 y136 y137 y138 y139 y140 y141 y142 y143 y144 y145 y146 y147 y148 y149 y150 y151 y152 y153 y154 y155 y156 y157 y158 y159 y160 y161 y162 y163 y164 y165 y166 y167 y168 y169 y170 y171 y172 y173 y174 y175 y176 y177 y178 y179 y180 y181 y182 y183 y184 y185 y186 y187 y188 y189 y190 y191 y192 y193 y194 y195 y196 y197 y198 y199 y200 y201 y202 y203 y204 y205 y206 y207 y208 y209 y210 y211 y212 y213 y214 y215 y216 y217 y218 y219 y220 y221 y222 y223 y224 y225 y226 y227 y228 y229 y230 y231 y232 y233 y234 y235 y236 y237 y238 y239 y240 y241 y242 y243 y244 y245 y246 y247 y248 y249 y250 y251 y252 y253 y254 y255 y256 y257 y258 y259 y260 y261 y262 y263 y264 y265 y266 y267 y268 y269 y270 y271 y272 y273 y274 y275 y276 y277 y278 y279 y280 y281 y282 y283 y284 y285 y286 y287 y288 y289 y290 y291 y292 y293 y294 y295 y296 y297 y298 y299 y300 y301 y302 y303 y304 y305 : Value}
    (hN : N ≤ AB) (h : Ar w AB 101 (fun t => .int .i64 (f t : Int)))
    (hK : ∀ (t8 t37 t38 t39 t40 t41 t42 t43 : Value) (wx : World) (f' : Nat → Nat), Ar wx AB 101 (fun t => .int .i64 (f' t : Int)) → (∀ t, 1 ≤ t → t ≤ 4 → f' t = n) → f' 0 = f 0 → Below N w wx → wx.heap.size = w.heap.size → (∀ B, B ≠ AB → wx.heap[B]? = w.heap[B]?) → QQ (.exit 0) { tmps := List.toArray (y0 :: y1 :: y2 :: (.int .i64 (n : Int)) :: y4 :: y5 :: (Pp AB) :: y7 :: (t8) :: y9 :: y10 :: y11 :: y12 :: y13 :: y14 :: y15 :: y16 :: y17 :: y18 :: y19 :: y20 :: y21 :: y22 :: y23 :: y24 :: y25 :: y26 :: y27 :: y28 :: y29 :: y30 :: y31 :: y32 :: y33 :: y34 :: y35 :: y36 :: (t37) :: (t38) :: (t39) :: (t40) :: (t41) :: (t42) :: (t43) :: y44 :: y45 :: y46 :: y47 :: y48 :: y49 :: y50 :: y51 :: y52 :: y53 :: y54 :: y55 :: y56 :: y57 :: y58 :: y59 :: y60 :: y61 :: y62 :: y63 :: y64 :: y65 :: y66 :: y67 :: y68 :: y69 :: y70 :: y71 :: y72 :: y73 :: y74 :: y75 :: y76 :: y77 :: y78 :: y79 :: y80 :: y81 :: y82 :: y83 :: y84 :: y85 :: y86 :: y87 :: y88 :: y89 :: y90 :: y91 :: y92 :: y93 :: y94 :: y95 :: y96 :: y97 :: y98 :: y99 :: y100 :: y101 :: y102 :: y103 :: y104 :: y105 :: y106 :: y107 :: y108 :: y109 :: y110 :: y111 :: y112 :: y113 :: y114 :: y115 :: y116 :: y117 :: y118 :: y119 :: y120 :: y121 :: y122 :: y123 :: y124 :: y125 :: y126 :: y127 :: y128 :: y129 :: y130 :: y131 :: y132 :: y133 :: y134 :: y135 :: y136 :: y137 :: y138 :: y139 :: y140 :: y141 :: y142 :: y143 :: y144 :: y145 :: y146 :: y147 :: y148 :: y149 :: y150 :: y151 :: y152 :: y153 :: y154 :: y155 :: y156 :: y157 :: y158 :: y159 :: y160 :: y161 :: y162 :: y163 :: y164 :: y165 :: y166 :: y167 :: y168 :: y169 :: y170 :: y171 :: y172 :: y173 :: y174 :: y175 :: y176 :: y177 :: y178 :: y179 :: y180 :: y181 :: y182 :: y183 :: y184 :: y185 :: y186 :: y187 :: y188 :: y189 :: y190 :: y191 :: y192 :: y193 :: y194 :: y195 :: y196 :: y197 :: y198 :: y199 :: y200 :: y201 :: y202 :: y203 :: y204 :: y205 :: y206 :: y207 :: y208 :: y209 :: y210 :: y211 :: y212 :: y213 :: y214 :: y215 :: y216 :: y217 :: y218 :: y219 :: y220 :: y221 :: y222 :: y223 :: y224 :: y225 :: y226 :: y227 :: y228 :: y229 :: y230 :: y231 :: y232 :: y233 :: y234 :: y235 :: y236 :: y237 :: y238 :: y239 :: y240 :: y241 :: y242 :: y243 :: y244 :: y245 :: y246 :: y247 :: y248 :: y249 :: y250 :: y251 :: y252 :: y253 :: y254 :: y255 :: y256 :: y257 :: y258 :: y259 :: y260 :: y261 :: y262 :: y263 :: y264 :: y265 :: y266 :: y267 :: y268 :: y269 :: y270 :: y271 :: y272 :: y273 :: y274 :: y275 :: y276 :: y277 :: y278 :: y279 :: y280 :: y281 :: y282 :: y283 :: y284 :: y285 :: y286 :: y287 :: y288 :: y289 :: y290 :: y291 :: y292 :: y293 :: y294 :: y295 :: y296 :: y297 :: y298 :: y299 :: y300 :: y301 :: y302 :: y303 :: y304 :: y305 :: []), defers := [] } wx) :
    Code.wp Yba.prog (lpOf Yba.f16.body 0) QQ { tmps := List.toArray (y0 :: y1 :: y2 :: (.int .i64 (n : Int)) :: y4 :: y5 :: (Pp AB) :: y7 :: (.int .i64 1) :: y9 :: y10 :: y11 :: y12 :: y13 :: y14 :: y15 :: y16 :: y17 :: y18 :: y19 :: y20 :: y21 :: y22 :: y23 :: y24 :: y25 :: y26 :: y27 :: y28 :: y29 :: y30 :: y31 :: y32 :: y33 :: y34 :: y35 :: y36 :: y37 :: y38 :: y39 :: y40 :: y41 :: y42 :: y43 :: y44 :: y45 :: y46 :: y47 :: y48 :: y49 :: y50 :: y51 :: y52 :: y53 :: y54 :: y55 :: y56 :: y57 :: y58 :: y59 :: y60 :: y61 :: y62 :: y63 :: y64 :: y65 :: y66 :: y67 :: y68 :: y69 :: y70 :: y71 :: y72 :: y73 :: y74 :: y75 :: y76 :: y77 :: y78 :: y79 :: y80 :: y81 :: y82 :: y83 :: y84 :: y85 :: y86 :: y87 :: y88 :: y89 :: y90 :: y91 :: y92 :: y93 :: y94 :: y95 :: y96 :: y97 :: y98 :: y99 :: y100 :: y101 :: y102 :: y103 :: y104 :: y105 :: y106 :: y107 :: y108 :: y109 :: y110 :: y111 :: y112 :: y113 :: y114 :: y115 :: y116 :: y117 :: y118 :: y119 :: y120 :: y121 :: y122 :: y123 :: y124 :: y125 :: y126 :: y127 :: y128 :: y129 :: y130 :: y131 :: y132 :: y133 :: y134 :: y135 :: y136 :: y137 :: y138 :: y139 :: y140 :: y141 :: y142 :: y143 :: y144 :: y145 :: y146 :: y147 :: y148 :: y149 :: y150 :: y151 :: y152 :: y153 :: y154 :: y155 :: y156 :: y157 :: y158 :: y159 :: y160 :: y161 :: y162 :: y163 :: y164 :: y165 :: y166 :: y167 :: y168 :: y169 :: y170 :: y171 :: y172 :: y173 :: y174 :: y175 :: y176 :: y177 :: y178 :: y179 :: y180 :: y181 :: y182 :: y183 :: y184 :: y185 :: y186 :: y187 :: y188 :: y189 :: y190 :: y191 :: y192 :: y193 :: y194 :: y195 :: y196 :: y197 :: y198 :: y199 :: y200 :: y201 :: y202 :: y203 :: y204 :: y205 :: y206 :: y207 :: y208 :: y209 :: y210 :: y211 :: y212 :: y213 :: y214 :: y215 :: y216 :: y217 :: y218 :: y219 :: y220 :: y221 :: y222 :: y223 :: y224 :: y225 :: y226 :: y227 :: y228 :: y229 :: y230 :: y231 :: y232 :: y233 :: y234 :: y235 :: y236 :: y237 :: y238 :: y239 :: y240 :: y241 :: y242 :: y243 :: y244 :: y245 :: y246 :: y247 :: y248 :: y249 :: y250 :: y251 :: y252 :: y253 :: y254 :: y255 :: y256 :: y257 :: y258 :: y259 :: y260 :: y261 :: y262 :: y263 :: y264 :: y265 :: y266 :: y267 :: y268 :: y269 :: y270 :: y271 :: y272 :: y273 :: y274 :: y275 :: y276 :: y277 :: y278 :: y279 :: y280 :: y281 :: y282 :: y283 :: y284 :: y285 :: y286 :: y287 :: y288 :: y289 :: y290 :: y291 :: y292 :: y293 :: y294 :: y295 :: y296 :: y297 :: y298 :: y299 :: y300 :: y301 :: y302 :: y303 :: y304 :: y305 :: []), defers := [] } w := by
  have HK := hide hK
  clear hK
  have H := hide h
  clear h
  conv => arg 2; whnf
  go_loopw [8] (fun q wx => ∃ (t : Nat) (f' : Nat → Nat), 1 ≤ t ∧ t ≤ 5 ∧ q = .int .i64 (t : Int) ∧ Ar wx AB 101 (fun t => .int .i64 (f' t : Int)) ∧ (∀ u, 1 ≤ u → u < t → f' u = n) ∧ f' 0 = f 0 ∧ Below N w wx ∧ wx.heap.size = w.heap.size ∧ (∀ B, B ≠ AB → wx.heap[B]? = w.heap[B]?)) (fun q _ => 5 - (intOf q).toNat)
  case atStart => exact ⟨1, f, by omega, by omega, rfl, H.out, fun u h1 h2 => by omega, rfl, Below.refl _ _, rfl, fun _ _ => rfl⟩
  case round =>
    obtain ⟨t, f', ht1, ht5, rfl, h1, h2, h3, h4, h5, h6⟩ := hrel
    by_cases ht : t ≤ 4
    · have ht' : (t : Int) ≤ 4 := by omega
      have c1 := h1.at_ ht
      have z1 := h1.free t
      have G1 := hide (h1.set (e := fun x : Nat => Value.int .i64 (x : Int)) ht n)
      have G2 := hide (show ∀ u, 1 ≤ u → u < t + 1 → updA f' t n u = n from fun u u1 u2 => by
        unfold updA
        by_cases e : u = t
        · rw [if_pos e]
        · rw [if_neg e]; exact h2 u u1 (by omega))
      have G3 := hide (show updA f' t n 0 = f 0 by unfold updA; rw [if_neg (by omega)]; exact h3)
      have G4 := hide (below_set2 h4 hN t (.int .i64 (n : Int)))
      have G5 := hide (show (wr.setCell ⟨AB, t, none⟩ (.int .i64 (n : Int))).heap.size = w.heap.size by rw [← h5]; simp [World.setCell])
      have G6 := hide (show ∀ B, B ≠ AB → (wr.setCell ⟨AB, t, none⟩ (.int .i64 (n : Int))).heap[B]? = w.heap[B]? from fun B hB => (Below.heap_setCell wr ⟨AB, t, none⟩ _ B hB).trans (h6 B hB))
      clear h1 h2 h3 h4 h5 h6
      go_wp2
      go_roundw
      case rel => exact ⟨t + 1, updA f' t n, by omega, by omega, by go_num, G1.out, G2.out, G3.out, G4.out, G5.out, G6.out⟩
      case measure => simp [intOf]; omega
    · obtain rfl : t = 5 := by omega
      have G := hide (show Ar wr AB 101 (fun t => .int .i64 (f' t : Int)) ∧ (∀ t, 1 ≤ t → t ≤ 4 → f' t = n) ∧ f' 0 = f 0 ∧ Below N w wr ∧ wr.heap.size = w.heap.size ∧ (∀ B, B ≠ AB → wr.heap[B]? = w.heap[B]?) from ⟨h1, fun u u1 u2 => h2 u u1 (by omega), h3, h4, h5, h6⟩)
      clear h1 h2 h3 h4 h5 h6
      go_wp2
      obtain ⟨h1, h2, h3, h4, h5, h6⟩ := G.out
      exact HK.out _ _ _ _ _ _ _ _ _ _ h1 h2 h3 h4 h5 h6

/-! ### What the second loop has seen -/
structure P2 (L : List O3) (i : Nat) (sn : Nat → Bool) (f l s : Nat → Nat) : Prop where
  sn : ∀ t, t ≤ 4 → (sn t = true ↔ Seen L i t)
  fi : ∀ t, Seen L i t → Fi L i t (f t)
  la : ∀ t, Seen L i t → La L i t (l t)
  ab : ∀ t, 1 ≤ t → t ≤ 4 → Ab L i t (s t)
  bd : ∀ t, f t ≤ 256 ∧ l t ≤ 256 ∧ s t ≤ 256
theorem P2.next {L : List O3} {i t : Nat} {sn : Nat → Bool} {f l s : Nat → Nat} (h : P2 L i sn f l s) (ht : tx L i t) (ht4 : t ≤ 4) (hi : i ≤ 256) (x y : Bool) (hx : sn t = x) (hy : y = true ↔ BM.ab L i t) :
    P2 L (i + 1) (updA sn t true) (if x = true then f else updA f t i) (updA l t i) (if y = true then updA s t i else s) := by
  have other : ∀ {u : Nat}, u ≠ t → ¬ tx L i u := fun hu h' => hu (tx_one h' ht)
  refine ⟨fun u hu => ?_, fun u hu => ?_, fun u hu => ?_, fun u h1 h4 => ?_, fun u => ?_⟩
  · rw [Seen.next ht]
    unfold updA
    by_cases e : u = t
    · simp [e]
    · simp [e, h.sn u hu]
  · by_cases e : u = t
    · subst e
      cases x with
      | true =>
        rw [if_pos rfl]
        exact (h.fi u ((h.sn u ht4).1 hx)).next
      | false =>
        rw [if_neg (by decide)]
        unfold updA
        rw [if_pos rfl]
        refine ⟨Nat.lt_succ_self _, ht, fun q hq h' => ?_⟩
        have : sn u = true := (h.sn u ht4).2 ⟨q, hq, h'⟩
        rw [hx] at this
        cases this
    · have hs : Seen L i u := ((Seen.next ht).1 hu).resolve_right e
      cases x with
      | true =>
        rw [if_pos rfl]
        exact (h.fi u hs).next
      | false =>
        rw [if_neg (by decide)]
        unfold updA
        rw [if_neg e]
        exact (h.fi u hs).next
  · unfold updA
    by_cases e : u = t
    · subst e
      rw [if_pos rfl]
      exact La.here ht
    · rw [if_neg e]
      exact (h.la u (((Seen.next ht).1 hu).resolve_right e)).next (other e)
  · cases y with
    | true =>
      rw [if_pos rfl]
      unfold updA
      by_cases e : u = t
      · subst e
        rw [if_pos rfl]
        exact Ab.here (hy.1 rfl)
      · rw [if_neg e]
        exact (h.ab u h1 h4).next (fun h' => other e (ab_tx h'))
    | false =>
      rw [if_neg (by decide)]
      refine (h.ab u h1 h4).next (fun h' => ?_)
      by_cases e : u = t
      · subst e
        have := hy.2 h'
        cases this
      · exact other e (ab_tx h')
  · obtain ⟨b1, b2, b3⟩ := h.bd u
    refine ⟨?_, ?_, ?_⟩
    · split
      · exact b1
      · unfold updA; split <;> omega
    · unfold updA; split <;> omega
    · split
      · unfold updA; split <;> omega
      · exact b3
theorem Ar.upd_same {w : World} {B : Nat} {sn : Nat → Bool} {t : Nat} (h : Ar w B 102 (fun u => .bool (sn u))) (e : sn t = true) : Ar w B 102 (fun u => .bool (updA sn t true u)) := by
  have : updA sn t true = sn := by
    funext u
    unfold updA
    by_cases e1 : u = t
    · rw [if_pos e1, e1, e]
    · rw [if_neg e1]
  rw [this]
  exact h
def A4 (w : World) (F LA AB S : Nat) (sn : Nat → Bool) (f l s : Nat → Nat) : Prop := Ar w F 101 (fun t => .int .i64 (f t : Int)) ∧ Ar w LA 101 (fun t => .int .i64 (l t : Int)) ∧ Ar w AB 101 (fun t => .int .i64 (s t : Int)) ∧ Ar w S 102 (fun t => .bool (sn t))

set_option maxHeartbeats 4000000 in
theorem m_loop2 {QQ : Exit → Act → World → Prop} {N g n c F LA AB S : Nat} {L : List O3} {sn : Nat → Bool} {f l s : Nat → Nat} {w : World} {y1 y2 y3 y8 y9 y10 y11 y12 y13 y14 y15 y16 y17 y18 y19 y20 y21 y22 y23 y24 y25 y26 y27 y28 y29 y30 y31 y32 y33 y34 y35 y36 y37 y38 y39 y40 y41 y42 y43 y47 y48 y49 y50 y51 y52 y53 y54 y55 y56 y57 y58 y59 y60 y61 y62 y63 y64 y65 y66 y67 y68 y69 y70 y71 y72 y73 y74 y75 y76 y77 y78 y79 y80 y81 y82 y83 y84 y85 y86 y87 y88 y89 y90 y91 y92 y93 y94 y95 y96 y97 y98 y99 y100 y101 y102 y103 y104 y105 y106 y107 y108 y109 y110 y111 y112 y113 y114 y115 y116 y117 y118 y119 y120 y121 y122 y123 y124 y125 y126 y127 y128 y129 y130 y131 y132 y133 y134 y135 y136 y137 y138 y139 y140 y141 y142 y143 y144 y145 y146 y147 y148 y149 y150 y151 y152 y153 y154 y155 y156 y157 y158 y159 y160 y161 y162 y163 y164 y165 y166 y167 y168 y169 y170 y171 y172 y173 y174 y175 y176 y177 y178 y179 y180 y181 y182 y183 y184 y185 y186 y187 y188 y189 y190 y191 y192 y193 y194 y195 y196 y197 y198 y199 y200 y201 y202 y203 y204 y205 y206 y207 y208 y209 y210 y211 y212 y213 y214 y215 y216 y217 y218 y219 y220 y221 y222 y223 y224 y225 y226 y227 y228 y229 y230 y231 y232 y233 y234 y235 y236 y237 y238 y239 y240 y241 y242 y243 y244 y245 y246 y247 y248 y249 y250 y251 y252 y253 y254 y255 y256 y257 y258 y259 y260 y261 y262 y263 y264 y265 y266 y267 y268 y269 y270 y271 y272 y273 y274 y275 y276 y277 y278 y279 y280 y281 y282 y283 y284 y285 y286 y287 y288 y289 y290 y291 y292 y293 y294 y295 y296 y297 y298 y299 y300 y301 y302 y303 y304 y305 : Value}
    (hn : n ≤ 256) (hl : L.length = n) (h : OpsAt w g L) (hg : g < N) (hN : N ≤ w.heap.size) (d1 : N ≤ F) (d2 : N ≤ LA) (d3 : N ≤ AB) (d4 : N ≤ S) (n1 : ¬ F = S) (n2 : ¬ LA = S) (n3 : ¬ LA = F) (n4 : ¬ AB = S) (n5 : ¬ AB = F) (n6 : ¬ AB = LA) (hA : A4 w F LA AB S sn f l s) (hP : P2 L 0 sn f l s)
    (hK : ∀ (t9 t10 t11 t46 t47 t48 t49 t50 t51 t52 t53 t54 t55 t56 t57 t58 t59 t60 t61 t62 t63 t64 t65 t66 t67 t68 t69 t70 t71 : Value) (wx : World) (sn' : Nat → Bool) (f' l' s' : Nat → Nat), A4 wx F LA AB S sn' f' l' s' → P2 L n sn' f' l' s' → Below N w wx → QQ (.exit 2) { tmps := List.toArray ((.slice (some ⟨g, 0, none⟩) n c) :: y1 :: y2 :: y3 :: (Pp F) :: (Pp LA) :: (Pp AB) :: (Pp S) :: y8 :: (t9) :: (t10) :: (t11) :: y12 :: y13 :: y14 :: y15 :: y16 :: y17 :: y18 :: y19 :: y20 :: y21 :: y22 :: y23 :: y24 :: y25 :: y26 :: y27 :: y28 :: y29 :: y30 :: y31 :: y32 :: y33 :: y34 :: y35 :: y36 :: y37 :: y38 :: y39 :: y40 :: y41 :: y42 :: y43 :: (.slice (some ⟨g, 0, none⟩) n c) :: (.int .i64 (n : Int)) :: (t46) :: (t47) :: (t48) :: (t49) :: (t50) :: (t51) :: (t52) :: (t53) :: (t54) :: (t55) :: (t56) :: (t57) :: (t58) :: (t59) :: (t60) :: (t61) :: (t62) :: (t63) :: (t64) :: (t65) :: (t66) :: (t67) :: (t68) :: (t69) :: (t70) :: (t71) :: y72 :: y73 :: y74 :: y75 :: y76 :: y77 :: y78 :: y79 :: y80 :: y81 :: y82 :: y83 :: y84 :: y85 :: y86 :: y87 :: y88 :: y89 :: y90 :: y91 :: y92 :: y93 :: y94 :: y95 :: y96 :: y97 :: y98 :: y99 :: y100 :: y101 :: y102 :: y103 :: y104 :: y105 :: y106 :: y107 :: y108 :: y109 :: y110 :: y111 :: y112 :: y113 :: y114 :: y115 :: y116 :: y117 :: y118 :: y119 :: y120 :: y121 :: y122 :: y123 :: y124 :: y125 :: y126 :: y127 :: y128 :: y129 :: y130 :: y131 :: y132 :: y133 :: y134 :: y135 :: y136 :: y137 :: y138 :: y139 :: y140 :: y141 :: y142 :: y143 :: y144 :: y145 :: y146 :: y147 :: y148 :: y149 :: y150 :: y151 :: y152 :: y153 :: y154 :: y155 :: y156 :: y157 :: y158 :: y159 :: y160 :: y161 :: y162 :: y163 :: y164 :: y165 :: y166 :: y167 :: y168 :: y169 :: y170 :: y171 :: y172 :: y173 :: y174 :: y175 :: y176 :: y177 :: y178 :: y179 :: y180 :: y181 :: y182 :: y183 :: y184 :: y185 :: y186 :: y187 :: y188 :: y189 :: y190 :: y191 :: y192 :: y193 :: y194 :: y195 :: y196 :: y197 :: y198 :: y199 :: y200 :: y201 :: y202 :: y203 :: y204 :: y205 :: y206 :: y207 :: y208 :: y209 :: y210 :: y211 :: y212 :: y213 :: y214 :: y215 :: y216 :: y217 :: y218 :: y219 :: y220 :: y221 :: y222 :: y223 :: y224 :: y225 :: y226 :: y227 :: y228 :: y229 :: y230 :: y231 :: y232 :: y233 :: y234 :: y235 :: y236 :: y237 :: y238 :: y239 :: y240 :: y241 :: y242 :: y243 :: y244 :: y245 :: y246 :: y247 :: y248 :: y249 :: y250 :: y251 :: y252 :: y253 :: y254 :: y255 :: y256 :: y257 :: y258 :: y259 :: y260 :: y261 :: y262 :: y263 :: y264 :: y265 :: y266 :: y267 :: y268 :: y269 :: y270 :: y271 :: y272 :: y273 :: y274 :: y275 :: y276 :: y277 :: y278 :: y279 :: y280 :: y281 :: y282 :: y283 :: y284 :: y285 :: y286 :: y287 :: y288 :: y289 :: y290 :: y291 :: y292 :: y293 :: y294 :: y295 :: y296 :: y297 :: y298 :: y299 :: y300 :: y301 :: y302 :: y303 :: y304 :: y305 :: []), defers := [] } wx) :
    Code.wp Yba.prog (lpOf Yba.f16.body 1) QQ { tmps := List.toArray ((.slice (some ⟨g, 0, none⟩) n c) :: y1 :: y2 :: y3 :: (Pp F) :: (Pp LA) :: (Pp AB) :: (Pp S) :: y8 :: y9 :: y10 :: y11 :: y12 :: y13 :: y14 :: y15 :: y16 :: y17 :: y18 :: y19 :: y20 :: y21 :: y22 :: y23 :: y24 :: y25 :: y26 :: y27 :: y28 :: y29 :: y30 :: y31 :: y32 :: y33 :: y34 :: y35 :: y36 :: y37 :: y38 :: y39 :: y40 :: y41 :: y42 :: y43 :: (.slice (some ⟨g, 0, none⟩) n c) :: (.int .i64 (n : Int)) :: (.int .i64 0) :: y47 :: y48 :: y49 :: y50 :: y51 :: y52 :: y53 :: y54 :: y55 :: y56 :: y57 :: y58 :: y59 :: y60 :: y61 :: y62 :: y63 :: y64 :: y65 :: y66 :: y67 :: y68 :: y69 :: y70 :: y71 :: y72 :: y73 :: y74 :: y75 :: y76 :: y77 :: y78 :: y79 :: y80 :: y81 :: y82 :: y83 :: y84 :: y85 :: y86 :: y87 :: y88 :: y89 :: y90 :: y91 :: y92 :: y93 :: y94 :: y95 :: y96 :: y97 :: y98 :: y99 :: y100 :: y101 :: y102 :: y103 :: y104 :: y105 :: y106 :: y107 :: y108 :: y109 :: y110 :: y111 :: y112 :: y113 :: y114 :: y115 :: y116 :: y117 :: y118 :: y119 :: y120 :: y121 :: y122 :: y123 :: y124 :: y125 :: y126 :: y127 :: y128 :: y129 :: y130 :: y131 :: y132 :: y133 :: y134 :: y135 :: y136 :: y137 :: y138 :: y139 :: y140 :: y141 :: y142 :: y143 :: y144 :: y145 :: y146 :: y147 :: y148 :: y149 :: y150 :: y151 :: y152 :: y153 :: y154 :: y155 :: y156 :: y157 :: y158 :: y159 :: y160 :: y161 :: y162 :: y163 :: y164 :: y165 :: y166 :: y167 :: y168 :: y169 :: y170 :: y171 :: y172 :: y173 :: y174 :: y175 :: y176 :: y177 :: y178 :: y179 :: y180 :: y181 :: y182 :: y183 :: y184 :: y185 :: y186 :: y187 :: y188 :: y189 :: y190 :: y191 :: y192 :: y193 :: y194 :: y195 :: y196 :: y197 :: y198 :: y199 :: y200 :: y201 :: y202 :: y203 :: y204 :: y205 :: y206 :: y207 :: y208 :: y209 :: y210 :: y211 :: y212 :: y213 :: y214 :: y215 :: y216 :: y217 :: y218 :: y219 :: y220 :: y221 :: y222 :: y223 :: y224 :: y225 :: y226 :: y227 :: y228 :: y229 :: y230 :: y231 :: y232 :: y233 :: y234 :: y235 :: y236 :: y237 :: y238 :: y239 :: y240 :: y241 :: y242 :: y243 :: y244 :: y245 :: y246 :: y247 :: y248 :: y249 :: y250 :: y251 :: y252 :: y253 :: y254 :: y255 :: y256 :: y257 :: y258 :: y259 :: y260 :: y261 :: y262 :: y263 :: y264 :: y265 :: y266 :: y267 :: y268 :: y269 :: y270 :: y271 :: y272 :: y273 :: y274 :: y275 :: y276 :: y277 :: y278 :: y279 :: y280 :: y281 :: y282 :: y283 :: y284 :: y285 :: y286 :: y287 :: y288 :: y289 :: y290 :: y291 :: y292 :: y293 :: y294 :: y295 :: y296 :: y297 :: y298 :: y299 :: y300 :: y301 :: y302 :: y303 :: y304 :: y305 :: []), defers := [] } w := by
  have HK := hide hK
  clear hK
  have H := hide h
  have HL := hide hl
  have HA0 := hide hA
  have HP0 := hide hP
  clear h hl hA hP
  conv => arg 2; whnf
  go_loopw [46] (fun q wx => ∃ (i : Nat) (sn' : Nat → Bool) (f' l' s' : Nat → Nat), i ≤ n ∧ q = .int .i64 (i : Int) ∧ A4 wx F LA AB S sn' f' l' s' ∧ P2 L i sn' f' l' s' ∧ Below N w wx) (fun q _ => n - (intOf q).toNat)
  case atStart => exact ⟨0, sn, f, l, s, Nat.zero_le _, rfl, HA0.out, HP0.out, Below.refl _ _⟩
  case round =>
    clear HA0 HP0 sn f l s
    obtain ⟨i, sn, f, l, s, hi, rfl, hA, hP, hB⟩ := hrel
    by_cases hin : i < n
    · have hin' : (i : Int) < (n : Int) := by omega
      obtain ⟨o, ho⟩ : ∃ o, L[i]? = some o := ⟨_, List.getElem?_eq_getElem (by rw [HL.out]; exact hin)⟩
      obtain ⟨hil, hoe⟩ := List.getElem?_eq_some_iff.1 ho
      have eg := hB.block g hg
      have c0 := (World.cell?_of_block (a := ⟨g, i * 3, none⟩) eg).trans (H.out.a i hil)
      have c1 := (World.cell?_of_block (a := ⟨g, i * 3 + 1, none⟩) eg).trans (H.out.t i hil)
      have c2 := (World.cell?_of_block (a := ⟨g, i * 3 + 2, none⟩) eg).trans (H.out.i i hil)
      have ok := H.out.ok i hil
      rw [hoe] at c0 c1 c2 ok
      have htx : tx L i o.2.1 := ⟨o, ho, rfl⟩
      have hab : BM.ab L i o.2.1 ↔ o.1 = 4 := ⟨fun ⟨o', h1, h2, h3⟩ => by rw [ho] at h1; cases h1; exact h3, fun h => ⟨o, ho, rfl, h⟩⟩
      have hsz := hB.size
      have lt4 := ok.t4
      have hk6 := ok.k
      have lg : g < wr.heap.size := by omega
      obtain ⟨k, t, j⟩ := o
      simp only at c0 c1 lt4 hk6 htx hab
      generalize itB (k, t, j) = str at c2
      have lt4' : (t : Int) < 5 := by omega
      obtain ⟨W, hW⟩ : ∃ W, W = wr.alloc (.cells #[.string (actB k), .int .i64 (t : Int), .string str] 87) := ⟨_, rfl⟩
      obtain ⟨a1, a2, a3, a4⟩ := hA
      have HAW := hide (show A4 W F LA AB S sn f l s by rw [hW]; exact ⟨a1.al _, a2.al _, a3.al _, a4.al _⟩)
      have HBW := hide (show Below N w W by rw [hW]; exact hB.alloc (by omega) _)
      have hx : W.heap[wr.heap.size]? = some (.cells #[.string (actB k), .int .i64 (t : Int), .string str] 87 (0, 0)) := by rw [hW]; exact heap_alloc_new wr _
      have e0 : W.cell? ⟨wr.heap.size, 0, none⟩ = some (.string (actB k)) := (cell_at hx 0).trans rfl
      have f1 : ¬ wr.heap.size = S := by have := a4.lt; omega
      have f2 : ¬ wr.heap.size = F := by have := a1.lt; omega
      have f3 : ¬ wr.heap.size = LA := by have := a2.lt; omega
      have HP := hide hP
      have HTX := hide htx
      have HAB := hide hab
      clear hP htx hab hB eg ho hoe ok a1 a2 a3 a4 hx
      go_upto_region 12 with fail
      rw [← hW]
      clear hW c0 c1 c2
      obtain ⟨bx, hbx⟩ : ∃ b, b = wr.heap.size := ⟨_, rfl⟩
      rw [← hbx] at e0 f1 f2 f3 ⊢
      clear hbx lg hsz
      obtain ⟨a1, a2, a3, a4⟩ := HAW.out
      have cS := a4.at_ lt4
      have cF := a1.at_ lt4
      have cL := a2.at_ lt4
      have cA := a3.at_ lt4
      have zS := a4.free t
      have zF := a1.free t
      have zL := a2.free t
      have zA := a3.free t
      clear a1 a2 a3 a4
      obtain ⟨x, hx⟩ : ∃ x, sn t = x := ⟨_, rfl⟩
      rw [hx] at cS
      by_cases hk4 : k = 4
      · have PN := hide (HP.out.next HTX.out lt4 (by omega) x true hx ⟨fun _ => HAB.out.2 hk4, fun _ => rfl⟩)
        subst hk4
        simp only [actB] at e0
        have HX := hide hx
        clear hx HP HTX HAB
        cases x with
        | true =>
          have FIN := hide (show A4 ((W.setCell ⟨LA, t, none⟩ (.int .i64 (i : Int))).setCell ⟨AB, t, none⟩ (.int .i64 (i : Int))) F LA AB S (updA sn t true) f (updA l t i) (updA s t i) ∧ Below N w ((W.setCell ⟨LA, t, none⟩ (.int .i64 (i : Int))).setCell ⟨AB, t, none⟩ (.int .i64 (i : Int))) from by
            obtain ⟨a1, a2, a3, a4⟩ := HAW.out
            exact ⟨⟨(a1.other (Ne.symm n3) _ _).other (Ne.symm n5) _ _, (a2.set (e := fun x : Nat => Value.int .i64 (x : Int)) lt4 i).other (Ne.symm n6) _ _, (a3.other n6 _ _).set (e := fun x : Nat => Value.int .i64 (x : Int)) lt4 i, ((a4.upd_same HX.out).other (Ne.symm n2) _ _).other (Ne.symm n4) _ _⟩, below_set2 (below_set2 HBW.out d2 _ _) d3 _ _⟩)
          clear HAW HBW HX
          go_wp2
          go_roundw
          case rel => exact ⟨i + 1, _, _, _, _, by omega, by go_num, FIN.out.1, PN.out, FIN.out.2⟩
          case measure => simp [intOf]; omega
        | false =>
          have FIN := hide (show A4 ((((W.setCell ⟨S, t, none⟩ (.bool true)).setCell ⟨F, t, none⟩ (.int .i64 (i : Int))).setCell ⟨LA, t, none⟩ (.int .i64 (i : Int))).setCell ⟨AB, t, none⟩ (.int .i64 (i : Int))) F LA AB S (updA sn t true) (updA f t i) (updA l t i) (updA s t i) ∧ Below N w ((((W.setCell ⟨S, t, none⟩ (.bool true)).setCell ⟨F, t, none⟩ (.int .i64 (i : Int))).setCell ⟨LA, t, none⟩ (.int .i64 (i : Int))).setCell ⟨AB, t, none⟩ (.int .i64 (i : Int))) from by
            obtain ⟨a1, a2, a3, a4⟩ := HAW.out
            exact ⟨⟨(((a1.other n1 _ _).set (e := fun x : Nat => Value.int .i64 (x : Int)) lt4 i).other (Ne.symm n3) _ _).other (Ne.symm n5) _ _, (((a2.other n2 _ _).other n3 _ _).set (e := fun x : Nat => Value.int .i64 (x : Int)) lt4 i).other (Ne.symm n6) _ _, (((a3.other n4 _ _).other n5 _ _).other n6 _ _).set (e := fun x : Nat => Value.int .i64 (x : Int)) lt4 i, (((a4.set (e := fun x : Bool => Value.bool x) lt4 true).other (Ne.symm n1) _ _).other (Ne.symm n2) _ _).other (Ne.symm n4) _ _⟩, below_set2 (below_set2 (below_set2 (below_set2 HBW.out d4 _ _) d1 _ _) d2 _ _) d3 _ _⟩)
          clear HAW HBW HX
          go_wp2
          go_roundw
          case rel => exact ⟨i + 1, _, _, _, _, by omega, by go_num, FIN.out.1, PN.out, FIN.out.2⟩
          case measure => simp [intOf]; omega
      · have PN := hide (HP.out.next HTX.out lt4 (by omega) x false hx ⟨fun e => (by cases e), fun e => absurd (HAB.out.1 e) hk4⟩)
        have hn1 : ¬ (actB k).toList = (⟨#[97]⟩ : ByteArray).toList := fun e => hk4 ((actB_L hk6 (show 4 < 6 by decide)).1 e)
        have hn2 : ((actB k).toList == [97]) = false := by
          simp only [beq_eq_false_iff_ne]
          exact fun e => hn1 (e.trans (by rw [ByteArray.toList_eq]))
        have HX := hide hx
        clear hx HP HTX HAB
        cases x with
        | true =>
          have FIN := hide (show A4 (W.setCell ⟨LA, t, none⟩ (.int .i64 (i : Int))) F LA AB S (updA sn t true) f (updA l t i) s ∧ Below N w (W.setCell ⟨LA, t, none⟩ (.int .i64 (i : Int))) from by
            obtain ⟨a1, a2, a3, a4⟩ := HAW.out
            exact ⟨⟨a1.other (Ne.symm n3) _ _, a2.set (e := fun x : Nat => Value.int .i64 (x : Int)) lt4 i, a3.other n6 _ _, (a4.upd_same HX.out).other (Ne.symm n2) _ _⟩, below_set2 HBW.out d2 _ _⟩)
          clear HAW HBW HX
          go_wp2
          go_roundw
          case rel => exact ⟨i + 1, _, _, _, _, by omega, by go_num, FIN.out.1, PN.out, FIN.out.2⟩
          case measure => simp [intOf]; omega
        | false =>
          have FIN := hide (show A4 (((W.setCell ⟨S, t, none⟩ (.bool true)).setCell ⟨F, t, none⟩ (.int .i64 (i : Int))).setCell ⟨LA, t, none⟩ (.int .i64 (i : Int))) F LA AB S (updA sn t true) (updA f t i) (updA l t i) s ∧ Below N w (((W.setCell ⟨S, t, none⟩ (.bool true)).setCell ⟨F, t, none⟩ (.int .i64 (i : Int))).setCell ⟨LA, t, none⟩ (.int .i64 (i : Int))) from by
            obtain ⟨a1, a2, a3, a4⟩ := HAW.out
            exact ⟨⟨((a1.other n1 _ _).set (e := fun x : Nat => Value.int .i64 (x : Int)) lt4 i).other (Ne.symm n3) _ _, ((a2.other n2 _ _).other n3 _ _).set (e := fun x : Nat => Value.int .i64 (x : Int)) lt4 i, ((a3.other n4 _ _).other n5 _ _).other n6 _ _, ((a4.set (e := fun x : Bool => Value.bool x) lt4 true).other (Ne.symm n1) _ _).other (Ne.symm n2) _ _⟩, below_set2 (below_set2 (below_set2 HBW.out d4 _ _) d1 _ _) d2 _ _⟩)
          clear HAW HBW HX
          go_wp2
          go_roundw
          case rel => exact ⟨i + 1, _, _, _, _, by omega, by go_num, FIN.out.1, PN.out, FIN.out.2⟩
          case measure => simp [intOf]; omega
    · obtain rfl : i = n := by omega
      have G1 := hide hA
      have G2 := hide hP
      have G3 := hide hB
      clear hA hP hB
      go_wp2
      exact HK.out _ _ _ _ _ _ _ _ _ _ _ _ _ _ _ _ _ _ _ _ _ _ _ _ _ _ _ _ _ _ _ _ _ _ G1.out G2.out G3.out

end Go.Proofs.Ybulkaggi.BM

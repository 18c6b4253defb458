import Derived.Test.YbulkagfuFmtG3
namespace Go.Proofs.YbulkagfuFmt
open Go.RowKit Go.WideMaps Go.Maps Go.Extern.Stop Go.Stop Go.Extern Go.MuLone
set_option linter.unusedVariables false
set_option maxRecDepth 100000

/-- The region of a number within a code. -/
def regOf (k : Nat) : Code → Option Code
  | .region i ops s => if i = k then some (.region i ops s) else none
  | .loop c => regOf k c
  | .seq a b => (regOf k a).or (regOf k b)
  | .block _ c => regOf k c
  | .scope c => regOf k c
  | .cond _ a b => (regOf k a).or (regOf k b)
  | _ => none
def rgOf (b : Option Code) (k : Nat) : Code := (b.bind (regOf k)).getD .skip

theorem info46 : (Ybaf.prog.info? 46).map (fun i => (i.zero, i.size, i.bytes)) = some (some (.slice none 0 0), 1, 24) := by kernel_rfl
theorem info4 : (Ybaf.prog.info? 4).map (fun i => (i.zero, i.size, i.bytes)) = some (some (.bool false), 1, 1) := by kernel_rfl
theorem make41 (w : World) (l : Nat) (hl : l ≤ 4) : (Instr.makeSlice 41 (.int .i64 (l : Int)) (.int .i64 (l : Int))).run Ybaf.prog w = .ok (.slice (some ⟨w.heap.size, 0, none⟩) l l) (w.alloc (.cells (madeCells #[Value.slice none 0 0] l) 46)) := by
  obtain ⟨i0, hi0, hz0, hz1, hz2⟩ := info_at info46
  have := run_makeSlice w 41 46 i0 (.slice none 0 0) Ybaf.underlying41 hi0 hz0 .i64 .i64 (l : Int) (l : Int) (by omega) (by omega) (by rw [hz1]; simp; omega) (by rw [hz2]; omega) (by omega)
  rw [hz1] at this
  simpa [Value.cells] using this
theorem make42 (w : World) (l : Nat) (hl : l ≤ 4) : (Instr.makeSlice 42 (.int .i64 (l : Int)) (.int .i64 (l : Int))).run Ybaf.prog w = .ok (.slice (some ⟨w.heap.size, 0, none⟩) l l) (w.alloc (.cells (madeCells #[Value.bool false] l) 4)) := by
  obtain ⟨i0, hi0, hz0, hz1, hz2⟩ := info_at info4
  have := run_makeSlice w 42 4 i0 (.bool false) Ybaf.underlying42 hi0 hz0 .i64 .i64 (l : Int) (l : Int) (by omega) (by omega) (by rw [hz1]; simp; omega) (by rw [hz2]; omega) (by omega)
  rw [hz1] at this
  simpa [Value.cells] using this

theorem three (w : World) (a b c : Obj) : (((w.alloc a).alloc b).alloc c).heap[w.heap.size]? = some a ∧ (((w.alloc a).alloc b).alloc c).heap[w.heap.size + 1]? = some b ∧ (((w.alloc a).alloc b).alloc c).heap[w.heap.size + 1 + 1]? = some c ∧ Below w.heap.size w (((w.alloc a).alloc b).alloc c) := by
  have s1 : (w.alloc a).heap.size = w.heap.size + 1 := by simp
  have s2 : ((w.alloc a).alloc b).heap.size = w.heap.size + 1 + 1 := by simp
  refine ⟨?_, ?_, ?_, (((Below.refl _ w).alloc (Nat.le_refl _) a).alloc (by omega) b).alloc (by omega) c⟩
  · rw [Below.heap_alloc _ _ _ (by omega), Below.heap_alloc _ _ _ (by omega)]
    exact heap_alloc_new w a
  · rw [Below.heap_alloc _ _ _ (by omega), ← s1]
    exact heap_alloc_new _ b
  · rw [← s2]
    exact heap_alloc_new _ c
theorem made_at (z : Value) (n j : Nat) (h : j < n) : (madeCells #[z] n)[j]? = some z := by
  have := size_madeCells #[z] n
  simp [madeCells, h, Nat.mod_one]
theorem rec_new {w : World} {base r mB kB n : Nat} (h1 : w.heap[r]? = some (.cells #[.int .i64 0, .slice (some ⟨mB, 0, none⟩) n n, .slice (some ⟨kB, 0, none⟩) n n, .int .i64 0] 44 (0, 0))) (h2 : w.heap[mB]? = some (.cells (madeCells #[Value.slice none 0 0] n) 46 (0, 0))) (h3 : w.heap[kB]? = some (.cells (madeCells #[Value.bool false] n) 4 (0, 0))) :
    RecAt w base r mB kB n (fun _ => false) 0 (fun _ => []) (fun _ => none) :=
  ⟨h1, ⟨_, h3, fun j hj => made_at _ n j hj⟩, ⟨_, h2, fun j hj => ⟨_, made_at _ n j hj, ⟨rfl, .inl ⟨rfl, rfl⟩⟩, rfl⟩⟩⟩

set_option maxHeartbeats 4000000 in
theorem region16 {KK : Act → World → Prop} {Q : Exit → Act → World → Prop} {n : Nat} {w : World} {y0 y1 y2 y3 y4 y5 y6 y7 y8 y9 y10 y11 y12 y14 y15 y16 y17 y18 y19 y20 y21 y22 y23 y24 y25 y26 y27 y28 y29 y30 y31 y32 y33 y34 y35 y36 y37 y38 y39 y40 y41 y42 y43 y44 y45 y46 y47 y48 y49 y50 y51 y52 y53 y54 y55 y56 y57 y58 y59 y60 y61 y62 y63 y64 y65 y66 y67 y68 y69 y70 y71 y72 y73 y74 y75 y76 y77 y78 y79 y80 y81 y82 y83 y84 y85 y86 y87 y88 y89 y90 y91 y92 y93 y94 y95 y96 y97 y98 y99 y100 y101 y102 y103 y104 y105 y106 y107 y108 y109 y110 y111 y112 y113 y114 y115 y116 y117 y118 y119 y120 y121 y122 y123 y124 y125 y126 y127 y128 y129 y130 y131 y132 y133 y134 y135 y136 y137 y138 y139 y140 y141 y142 y143 y144 y145 y146 y147 y148 y149 y150 y151 y152 y153 y154 y155 y156 y157 y158 y159 y160 y161 y162 y163 y164 y165 y166 y167 y168 y169 y170 y171 y172 y173 y174 y175 y176 y177 y178 y179 y180 y181 y182 y183 y184 y185 y186 y187 y188 y189 y190 y191 y192 y193 y194 y195 y196 y197 y198 y199 y200 y201 y202 y203 y204 y205 y206 y207 y208 y209 y210 y211 y212 y213 y214 y215 y216 y217 y218 y219 y220 y221 y222 y223 y224 y225 y226 y227 y228 y229 y230 y231 y232 y233 y234 y235 y236 y237 y238 y239 y240 y241 y242 y243 y244 y245 y246 y247 y248 y249 y250 y251 y252 y253 y254 y255 y256 y257 y258 y259 y260 y261 y262 y263 y264 y265 y266 y267 y268 y269 y270 y271 y272 y273 y274 y275 y276 y277 y278 y279 y280 y281 y282 y283 y284 y285 y286 y287 y288 y289 : Value}
    (hn : n ≤ 4)
    (hK : ∀ (r mB kB : Nat) (t77 t78 t79 t80 t81 t82 : Value) (wx : World), w.heap.size ≤ r → w.heap.size ≤ mB → w.heap.size ≤ kB → RecAt wx w.heap.size r mB kB n (fun _ => false) 0 (fun _ => []) (fun _ => none) → Below w.heap.size w wx → KK { tmps := List.toArray (y0 :: y1 :: y2 :: y3 :: y4 :: y5 :: y6 :: y7 :: y8 :: y9 :: y10 :: y11 :: y12 :: (.int .i64 (n : Int)) :: y14 :: y15 :: y16 :: y17 :: y18 :: y19 :: y20 :: (.pointer (some ⟨r, 0, none⟩)) :: y22 :: y23 :: y24 :: y25 :: y26 :: y27 :: y28 :: y29 :: y30 :: y31 :: y32 :: y33 :: y34 :: y35 :: y36 :: y37 :: y38 :: y39 :: y40 :: y41 :: y42 :: y43 :: y44 :: y45 :: y46 :: y47 :: y48 :: y49 :: y50 :: y51 :: y52 :: y53 :: y54 :: y55 :: y56 :: y57 :: y58 :: y59 :: y60 :: y61 :: y62 :: y63 :: y64 :: y65 :: y66 :: y67 :: y68 :: y69 :: y70 :: y71 :: y72 :: y73 :: y74 :: y75 :: y76 :: (t77) :: (t78) :: (t79) :: (t80) :: (t81) :: (t82) :: y83 :: y84 :: y85 :: y86 :: y87 :: y88 :: y89 :: y90 :: y91 :: y92 :: y93 :: y94 :: y95 :: y96 :: y97 :: y98 :: y99 :: y100 :: y101 :: y102 :: y103 :: y104 :: y105 :: y106 :: y107 :: y108 :: y109 :: y110 :: y111 :: y112 :: y113 :: y114 :: y115 :: y116 :: y117 :: y118 :: y119 :: y120 :: y121 :: y122 :: y123 :: y124 :: y125 :: y126 :: y127 :: y128 :: y129 :: y130 :: y131 :: y132 :: y133 :: y134 :: y135 :: y136 :: y137 :: y138 :: y139 :: y140 :: y141 :: y142 :: y143 :: y144 :: y145 :: y146 :: y147 :: y148 :: y149 :: y150 :: y151 :: y152 :: y153 :: y154 :: y155 :: y156 :: y157 :: y158 :: y159 :: y160 :: y161 :: y162 :: y163 :: y164 :: y165 :: y166 :: y167 :: y168 :: y169 :: y170 :: y171 :: y172 :: y173 :: y174 :: y175 :: y176 :: y177 :: y178 :: y179 :: y180 :: y181 :: y182 :: y183 :: y184 :: y185 :: y186 :: y187 :: y188 :: y189 :: y190 :: y191 :: y192 :: y193 :: y194 :: y195 :: y196 :: y197 :: y198 :: y199 :: y200 :: y201 :: y202 :: y203 :: y204 :: y205 :: y206 :: y207 :: y208 :: y209 :: y210 :: y211 :: y212 :: y213 :: y214 :: y215 :: y216 :: y217 :: y218 :: y219 :: y220 :: y221 :: y222 :: y223 :: y224 :: y225 :: y226 :: y227 :: y228 :: y229 :: y230 :: y231 :: y232 :: y233 :: y234 :: y235 :: y236 :: y237 :: y238 :: y239 :: y240 :: y241 :: y242 :: y243 :: y244 :: y245 :: y246 :: y247 :: y248 :: y249 :: y250 :: y251 :: y252 :: y253 :: y254 :: y255 :: y256 :: y257 :: y258 :: y259 :: y260 :: y261 :: y262 :: y263 :: y264 :: y265 :: y266 :: y267 :: y268 :: y269 :: y270 :: y271 :: y272 :: y273 :: y274 :: y275 :: y276 :: y277 :: y278 :: y279 :: y280 :: y281 :: y282 :: y283 :: y284 :: y285 :: y286 :: y287 :: y288 :: y289 :: []), defers := [] } wx) :
    Code.wp Ybaf.prog (rgOf Ybaf.f3.body 16) (Exit.then KK Q) { tmps := List.toArray (y0 :: y1 :: y2 :: y3 :: y4 :: y5 :: y6 :: y7 :: y8 :: y9 :: y10 :: y11 :: y12 :: (.int .i64 (n : Int)) :: y14 :: y15 :: y16 :: y17 :: y18 :: y19 :: y20 :: y21 :: y22 :: y23 :: y24 :: y25 :: y26 :: y27 :: y28 :: y29 :: y30 :: y31 :: y32 :: y33 :: y34 :: y35 :: y36 :: y37 :: y38 :: y39 :: y40 :: y41 :: y42 :: y43 :: y44 :: y45 :: y46 :: y47 :: y48 :: y49 :: y50 :: y51 :: y52 :: y53 :: y54 :: y55 :: y56 :: y57 :: y58 :: y59 :: y60 :: y61 :: y62 :: y63 :: y64 :: y65 :: y66 :: y67 :: y68 :: y69 :: y70 :: y71 :: y72 :: y73 :: y74 :: y75 :: y76 :: y77 :: y78 :: y79 :: y80 :: y81 :: y82 :: y83 :: y84 :: y85 :: y86 :: y87 :: y88 :: y89 :: y90 :: y91 :: y92 :: y93 :: y94 :: y95 :: y96 :: y97 :: y98 :: y99 :: y100 :: y101 :: y102 :: y103 :: y104 :: y105 :: y106 :: y107 :: y108 :: y109 :: y110 :: y111 :: y112 :: y113 :: y114 :: y115 :: y116 :: y117 :: y118 :: y119 :: y120 :: y121 :: y122 :: y123 :: y124 :: y125 :: y126 :: y127 :: y128 :: y129 :: y130 :: y131 :: y132 :: y133 :: y134 :: y135 :: y136 :: y137 :: y138 :: y139 :: y140 :: y141 :: y142 :: y143 :: y144 :: y145 :: y146 :: y147 :: y148 :: y149 :: y150 :: y151 :: y152 :: y153 :: y154 :: y155 :: y156 :: y157 :: y158 :: y159 :: y160 :: y161 :: y162 :: y163 :: y164 :: y165 :: y166 :: y167 :: y168 :: y169 :: y170 :: y171 :: y172 :: y173 :: y174 :: y175 :: y176 :: y177 :: y178 :: y179 :: y180 :: y181 :: y182 :: y183 :: y184 :: y185 :: y186 :: y187 :: y188 :: y189 :: y190 :: y191 :: y192 :: y193 :: y194 :: y195 :: y196 :: y197 :: y198 :: y199 :: y200 :: y201 :: y202 :: y203 :: y204 :: y205 :: y206 :: y207 :: y208 :: y209 :: y210 :: y211 :: y212 :: y213 :: y214 :: y215 :: y216 :: y217 :: y218 :: y219 :: y220 :: y221 :: y222 :: y223 :: y224 :: y225 :: y226 :: y227 :: y228 :: y229 :: y230 :: y231 :: y232 :: y233 :: y234 :: y235 :: y236 :: y237 :: y238 :: y239 :: y240 :: y241 :: y242 :: y243 :: y244 :: y245 :: y246 :: y247 :: y248 :: y249 :: y250 :: y251 :: y252 :: y253 :: y254 :: y255 :: y256 :: y257 :: y258 :: y259 :: y260 :: y261 :: y262 :: y263 :: y264 :: y265 :: y266 :: y267 :: y268 :: y269 :: y270 :: y271 :: y272 :: y273 :: y274 :: y275 :: y276 :: y277 :: y278 :: y279 :: y280 :: y281 :: y282 :: y283 :: y284 :: y285 :: y286 :: y287 :: y288 :: y289 :: []), defers := [] } w := by
  have HK := hide hK
  clear hK
  have k1 := fun W => make41 W n hn
  have k2 := fun W => make42 W n hn
  conv => arg 2; whnf
  go_region
  · obtain ⟨e1, e2, e3, e4⟩ := three w (.cells (madeCells #[Value.slice none 0 0] n) 46) (.cells (madeCells #[Value.bool false] n) 4) (.cells #[.int .i64 0, .slice (some ⟨w.heap.size, 0, none⟩) n n, .slice (some ⟨w.heap.size + 1, 0, none⟩) n n, .int .i64 0] 44)
    exact HK.out (w.heap.size + 1 + 1) w.heap.size (w.heap.size + 1) _ _ _ _ _ _ _ (by omega) (by omega) (by omega) (rec_new e3 e1 e2) ⟨e4.1, e4.2, e4.3, e4.4, e4.5⟩
  · obtain ⟨e1, e2, e3, e4⟩ := three w (.cells (madeCells #[Value.bool false] n) 4) (.cells (madeCells #[Value.slice none 0 0] n) 46) (.cells #[.int .i64 0, .slice (some ⟨w.heap.size + 1, 0, none⟩) n n, .slice (some ⟨w.heap.size, 0, none⟩) n n, .int .i64 0] 44)
    exact HK.out (w.heap.size + 1 + 1) (w.heap.size + 1) w.heap.size _ _ _ _ _ _ _ (by omega) (by omega) (by omega) (rec_new e3 e2 e1) ⟨e4.1, e4.2, e4.3, e4.4, e4.5⟩

end Go.Proofs.YbulkagfuFmt

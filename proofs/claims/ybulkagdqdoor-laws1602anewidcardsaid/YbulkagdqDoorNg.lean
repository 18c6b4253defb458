import Derived.Test.YbulkagdqDoorNf
import Derived.Test.YbulkagdqDoorNb
import Derived.Deep.RegionLaw
import Derived.Maps.AppendAt
namespace Go.Proofs.YbulkagdqDoor
open Go.RowKit
set_option linter.unusedVariables false
set_option maxRecDepth 100000

/-- The region of a number within a code. -/
def regOf (k : Nat) : Code → Option Code
  | .region i ops s => if i = k then some (.region i ops s) else none
  | .loop c => regOf k c
  | .seq a b => (regOf k a).or (regOf k b)
  | .block _ c => regOf k c
  | .scope c => regOf k c
  | .cond _ a b => (regOf k a).or (regOf k b)
  | _ => none
def rgOf (b : Option Code) (k : Nat) : Code := (b.bind (regOf k)).getD .skip
/-- The loops of a code, the outer one first. -/
def loopsOf : Code → List Code
  | .loop c => .loop c :: loopsOf c
  | .seq a b => loopsOf a ++ loopsOf b
  | .block _ c => loopsOf c
  | .scope c => loopsOf c
  | .cond _ a b => loopsOf a ++ loopsOf b
  | _ => []
def lpOf (b : Option Code) (k : Nat) : Code := ((b.map loopsOf).getD []).getD k .skip

theorem sl_shape {w : World} {base : Nat} {e : TypeId} {size : Nat} {v : Value} {n : Nat} {xs : List Value} (h : w.ownsRow base e size v n xs) : ∃ a c, v = .slice a n c := by
  rcases h.2 with ⟨rfl, h0⟩ | ⟨g, cap, cur, rfl, _⟩
  · exact ⟨_, _, by rw [h0]⟩
  · exact ⟨_, _, rfl⟩
theorem grown_of_drew {w w' : World} {row : Option Nat} (h : w.drew.grownBy w' row) : w.grownBy w' row := ⟨h.os, h.tape, h.output, h.size, h.block⟩
theorem own_tag {w : World} {base : Nat} {e : TypeId} {size : Nat} {v : Value} {n : Nat} {xs : List Value} (h : w.ownsRow base e size v n xs) {k : Nat} (hk : v.ownBlock = some k) : ∃ cs, w.heap[k]? = some (.cells cs e (0, 0)) := by
  rcases h.2 with ⟨rfl, _⟩ | ⟨g, cap, cur, rfl, _, hg, _⟩
  · simp [Value.ownBlock] at hk
  · simp [Value.ownBlock] at hk
    subst hk
    exact ⟨cur, hg⟩

theorem step_append33 {ops : Array Oper} {o : Oper} {a : Act} {w : World} {K : Act → World → Prop} {Q : Exit → Act → World → Prop} {E : Prop}
    (hg : o.guard = none) (s x : Operand) (hop : o.op = Op.call { callee := Callee.builtin Builtin.append, args := #[s, x], argTypes := #[33, 33] })
    {base m blk : Nat} {v : Value} {es : List Ent} (hs : a.eval s = v) (hx : a.eval x = .slice (some ⟨blk, 0, none⟩) 1 1) (r : Ent) (hb : w.heap[blk]? = some (.cells r.cells.toArray 60 (0, 0)))
    (h : w.ownsRow base 60 6 v m (entCells es)) (hm : m ≤ 2000) (hbase : base ≤ w.heap.size)
    (hK : ∀ v' w3, w3.ownsRow base 60 6 v' (m + 1) (entCells (es ++ [r])) → w.grownBy w3 v.ownBlock → (v'.ownBlock = v.ownBlock ∨ v'.ownBlock = some w.heap.size) → K (a.put o.dst v') w3) :
    if Region.wanted o (yielded ops a.tmps) = true then Oper.wp Ybad.prog o a w K Q else E := by
  have hw : Region.wanted o (yielded ops a.tmps) = true := by simp [Region.wanted, hg]
  rw [if_pos hw]
  obtain ⟨i0, hi0, hz0, hz1, hz2⟩ := info_parts Ybad.info60
  obtain ⟨v', w', hr, h1, h2, _, h5⟩ := run_append_own_at (P := Ybad.prog) w base 33 o.type 60 i0 _ 6 72 Ybad.underlying33 hi0 hz0 hz1 hz2 rfl (by decide) v m (entCells es) h ⟨blk, 0, none⟩ 1 1 r.cells rfl (news_okL _ hb) (ent_one r) (by unfold maxLen; omega) (by omega) hbase
  unfold Oper.wp execOp
  simp only [hop, resolve, invoke, builtin, Sem.run_bind, Sem.run_pure, Result.andThen_ok, List.map_toArray, List.map_cons, List.map_nil, hs, hx, hr]
  refine hK v' w' ?_ h2 h5
  rw [entCells_append]
  simpa [entCells] using h1

theorem or_snd {a b c : Prop} (h : a ∨ b) (f : b → c) : a ∨ c := by
  rcases h with h | h
  · exact .inl h
  · exact .inr (f h)
set_option maxHeartbeats 2000000 in
theorem append14 {KK : Act → World → Prop} {Q : Exit → Act → World → Prop} {base bb pc pt m vc gb gcap key : Nat} {va : Option Addr} {clk s n : Int} {es : List Ent} {w1 : World} {y0 y2 y3 y4 y5 y6 y7 y10 y11 y12 y13 y14 y15 y16 y17 y18 y19 y20 y21 y22 y23 y24 y25 y26 y27 y28 y29 y30 y31 y32 y33 y34 y35 y36 y37 y38 y39 y40 y41 y42 y43 y44 y45 y46 y47 y48 y49 y50 y51 y52 y53 y54 y55 y56 y57 y58 y59 y60 y61 y62 y63 y64 y65 y66 y67 y68 y69 y70 y71 y72 y73 y74 y75 y76 y77 y78 y79 y80 y81 y82 y83 y84 y85 y86 y87 y88 y89 y90 y91 y92 y93 y94 y95 y96 y97 y98 y99 y100 y101 y102 y103 y104 y105 y106 y107 y108 y109 y110 y111 y112 y113 y114 y115 y116 y117 y118 y119 y120 y121 y122 y123 y124 y125 y126 y127 y128 y129 y130 y131 y132 y133 y134 y135 y136 y137 y138 y139 y140 y141 y142 y143 y144 y145 y146 y147 y148 y149 y150 y151 y152 y153 y154 y155 y156 y157 y158 y159 y160 y161 y162 y163 y164 y165 y166 y167 y168 y169 y170 y171 y172 y173 y174 y175 y176 y177 y178 y179 y180 y181 y182 y183 y184 y185 y186 y187 y188 y189 y190 y191 y192 y193 y194 y195 y196 y197 y198 y199 y200 y201 y202 y203 y204 y205 y206 : Value}
    (hb9 : w1.cell? ⟨bb, 9, none⟩ = some (.slice va m vc)) (zb9 : w1.frozen? ⟨bb, 9, none⟩ = false) (hpc : w1.heap[pc]? = some (.cells #[.slice (some ⟨gb, 0, none⟩) 1 gcap, .int .u64 clk, .nilIface] 58 (0, 0))) (hpt : w1.heap[pt]? = some (.cells #[.int .u64 n, .int .i64 s, .pointer none] 28 (0, 0)))
    (how : w1.ownsRow base 60 6 (.slice va m vc) m (entCells es)) (hm : m ≤ 1000) (hbase : base ≤ w1.heap.size) (hbn : ∀ k, (Value.slice va m vc).ownBlock = some k → k ≠ bb ∧ k ≠ pc ∧ k ≠ pt) (hbb : bb < w1.heap.size)
    (hK : ∀ (t92 t93 t94 t95 t96 t97 t98 t99 t100 t101 t102 t103 : Value) (v' : Value) (w3 wx : World), w3.ownsRow base 60 6 v' (m + 1) (entCells (es ++ [⟨gb, gcap, key, clk, s, n⟩])) → (w1.alloc (.cells #[.slice (some ⟨gb, 0, none⟩) 1 gcap, .int .u64 clk, .nilIface, .int .u64 n, .int .i64 s, .pointer none] 60)).grownBy w3 (Value.slice va m vc).ownBlock → (v'.ownBlock = (Value.slice va m vc).ownBlock ∨ ∃ k, v'.ownBlock = some k ∧ w1.heap.size ≤ k) → wx.heap = (w3.setCell ⟨bb, 9, none⟩ v').heap → wx.os = w3.os → wx.tape = w3.tape → wx.output = w3.output → KK { tmps := List.toArray (y0 :: (.pointer (some ⟨bb, 0, none⟩)) :: y2 :: y3 :: y4 :: y5 :: y6 :: y7 :: (.pointer (some ⟨pc, 0, none⟩)) :: (.pointer (some ⟨pt, 0, none⟩)) :: y10 :: y11 :: y12 :: y13 :: y14 :: y15 :: y16 :: y17 :: y18 :: y19 :: y20 :: y21 :: y22 :: y23 :: y24 :: y25 :: y26 :: y27 :: y28 :: y29 :: y30 :: y31 :: y32 :: y33 :: y34 :: y35 :: y36 :: y37 :: y38 :: y39 :: y40 :: y41 :: y42 :: y43 :: y44 :: y45 :: y46 :: y47 :: y48 :: y49 :: y50 :: y51 :: y52 :: y53 :: y54 :: y55 :: y56 :: y57 :: y58 :: y59 :: y60 :: y61 :: y62 :: y63 :: y64 :: y65 :: y66 :: y67 :: y68 :: y69 :: y70 :: y71 :: y72 :: y73 :: y74 :: y75 :: y76 :: y77 :: y78 :: y79 :: y80 :: y81 :: y82 :: y83 :: y84 :: y85 :: y86 :: y87 :: y88 :: y89 :: y90 :: y91 :: (t92) :: (t93) :: (t94) :: (t95) :: (t96) :: (t97) :: (t98) :: (t99) :: (t100) :: (t101) :: (t102) :: (t103) :: y104 :: y105 :: y106 :: y107 :: y108 :: y109 :: y110 :: y111 :: y112 :: y113 :: y114 :: y115 :: y116 :: y117 :: y118 :: y119 :: y120 :: y121 :: y122 :: y123 :: y124 :: y125 :: y126 :: y127 :: y128 :: y129 :: y130 :: y131 :: y132 :: y133 :: y134 :: y135 :: y136 :: y137 :: y138 :: y139 :: y140 :: y141 :: y142 :: y143 :: y144 :: y145 :: y146 :: y147 :: y148 :: y149 :: y150 :: y151 :: y152 :: y153 :: y154 :: y155 :: y156 :: y157 :: y158 :: y159 :: y160 :: y161 :: y162 :: y163 :: y164 :: y165 :: y166 :: y167 :: y168 :: y169 :: y170 :: y171 :: y172 :: y173 :: y174 :: y175 :: y176 :: y177 :: y178 :: y179 :: y180 :: y181 :: y182 :: y183 :: y184 :: y185 :: y186 :: y187 :: y188 :: y189 :: y190 :: y191 :: y192 :: y193 :: y194 :: y195 :: y196 :: y197 :: y198 :: y199 :: y200 :: y201 :: y202 :: y203 :: y204 :: y205 :: y206 :: []), defers := [] } wx) :
    Code.wp Ybad.prog (rgOf Ybad.f10.body 14) (Exit.then KK Q) { tmps := List.toArray (y0 :: (.pointer (some ⟨bb, 0, none⟩)) :: y2 :: y3 :: y4 :: y5 :: y6 :: y7 :: (.pointer (some ⟨pc, 0, none⟩)) :: (.pointer (some ⟨pt, 0, none⟩)) :: y10 :: y11 :: y12 :: y13 :: y14 :: y15 :: y16 :: y17 :: y18 :: y19 :: y20 :: y21 :: y22 :: y23 :: y24 :: y25 :: y26 :: y27 :: y28 :: y29 :: y30 :: y31 :: y32 :: y33 :: y34 :: y35 :: y36 :: y37 :: y38 :: y39 :: y40 :: y41 :: y42 :: y43 :: y44 :: y45 :: y46 :: y47 :: y48 :: y49 :: y50 :: y51 :: y52 :: y53 :: y54 :: y55 :: y56 :: y57 :: y58 :: y59 :: y60 :: y61 :: y62 :: y63 :: y64 :: y65 :: y66 :: y67 :: y68 :: y69 :: y70 :: y71 :: y72 :: y73 :: y74 :: y75 :: y76 :: y77 :: y78 :: y79 :: y80 :: y81 :: y82 :: y83 :: y84 :: y85 :: y86 :: y87 :: y88 :: y89 :: y90 :: y91 :: y92 :: y93 :: y94 :: y95 :: y96 :: y97 :: y98 :: y99 :: y100 :: y101 :: y102 :: y103 :: y104 :: y105 :: y106 :: y107 :: y108 :: y109 :: y110 :: y111 :: y112 :: y113 :: y114 :: y115 :: y116 :: y117 :: y118 :: y119 :: y120 :: y121 :: y122 :: y123 :: y124 :: y125 :: y126 :: y127 :: y128 :: y129 :: y130 :: y131 :: y132 :: y133 :: y134 :: y135 :: y136 :: y137 :: y138 :: y139 :: y140 :: y141 :: y142 :: y143 :: y144 :: y145 :: y146 :: y147 :: y148 :: y149 :: y150 :: y151 :: y152 :: y153 :: y154 :: y155 :: y156 :: y157 :: y158 :: y159 :: y160 :: y161 :: y162 :: y163 :: y164 :: y165 :: y166 :: y167 :: y168 :: y169 :: y170 :: y171 :: y172 :: y173 :: y174 :: y175 :: y176 :: y177 :: y178 :: y179 :: y180 :: y181 :: y182 :: y183 :: y184 :: y185 :: y186 :: y187 :: y188 :: y189 :: y190 :: y191 :: y192 :: y193 :: y194 :: y195 :: y196 :: y197 :: y198 :: y199 :: y200 :: y201 :: y202 :: y203 :: y204 :: y205 :: y206 :: []), defers := [] } w1 := by
  have c0 : w1.cell? ⟨pc, 0, none⟩ = some (.slice (some ⟨gb, 0, none⟩) 1 gcap) := (cell_of_heap hpc 0).trans rfl
  have c1 : w1.cell? ⟨pc, 1, none⟩ = some (.int .u64 clk) := (cell_of_heap hpc 1).trans rfl
  have c2 : w1.cell? ⟨pc, 2, none⟩ = some .nilIface := (cell_of_heap hpc 2).trans rfl
  have d0 : w1.cell? ⟨pt, 0, none⟩ = some (.int .u64 n) := (cell_of_heap hpt 0).trans rfl
  have d1 : w1.cell? ⟨pt, 1, none⟩ = some (.int .i64 s) := (cell_of_heap hpt 1).trans rfl
  have d2 : w1.cell? ⟨pt, 2, none⟩ = some (.pointer none) := (cell_of_heap hpt 2).trans rfl
  have lpc := lt_of_heap hpc
  have lpt := lt_of_heap hpt
  have HW := hide how
  have HN := hide hbn
  have HK := hide hK
  clear hK how hbn hpc hpt
  have X1 : ∀ W : World, W.heap = (w1.alloc (.cells #[.slice (some ⟨gb, 0, none⟩) 1 gcap, .int .u64 clk, .nilIface, .int .u64 n, .int .i64 s, .pointer none] 60)).heap → W.heap[w1.heap.size]? = some (.cells (Ent.cells ⟨gb, gcap, key, clk, s, n⟩).toArray 60 (0, 0)) := fun W hW => by
    have h := heap_alloc_new' w1 (.cells #[.slice (some ⟨gb, 0, none⟩) 1 gcap, .int .u64 clk, .nilIface, .int .u64 n, .int .i64 s, .pointer none] 60)
    rw [← hW] at h
    exact h
  conv => arg 2; whnf
  refine wp_region_noPanic ?_
  go_region_law (refine step_append33 (base := base) (es := es) (v := .slice va m vc) (by rfl) (.tmp 96) (.tmp 100) (by rfl) (by rfl) (by rfl) ⟨gb, gcap, key, clk, s, n⟩ (by exact X1 _ rfl) (by exact (unhide HW).alloc _) (by omega) (by exact Nat.le_trans hbase (by simp)) ?_; intro v' w3 ho3 hg3 hl3; obtain ⟨va', vc', hv3⟩ := sl_shape ho3; subst hv3; have hg3' := grown_of_drew hg3; have hbk := (hg3'.block bb (by simp; omega) (fun e => (HN.out bb e.symm).1 rfl)).trans (Below.heap_alloc _ _ _ hbb); have b9' := (World.cell?_of_block (w := w1) (a := ⟨bb, 9, none⟩) hbk).trans hb9; have z9' := (World.frozen?_of_block (w := w1) (a := ⟨bb, 9, none⟩) hbk).trans zb9; have HO3 := hide ho3; have HG3 := hide hg3'; have HL3 := hide hl3; clear ho3 hg3 hg3' hbk hl3)
  all_goals exact HK.out _ _ _ _ _ _ _ _ _ _ _ _ (.slice va' (m + 1) vc') w3 _ HO3.out HG3.out (or_snd HL3.out (fun h => ⟨_, h, by show w1.heap.size ≤ (w1.alloc _).heap.size; simp⟩)) rfl rfl rfl rfl

set_option maxHeartbeats 2000000 in
theorem append30 {KK : Act → World → Prop} {Q : Exit → Act → World → Prop} {base bb pc pt m vc gb gcap key : Nat} {va : Option Addr} {clk s n : Int} {es : List Ent} {w1 : World} {y0 y2 y3 y4 y5 y6 y7 y10 y11 y12 y13 y14 y15 y16 y17 y18 y19 y20 y21 y22 y23 y24 y25 y26 y27 y28 y29 y30 y31 y32 y33 y34 y35 y36 y37 y38 y39 y40 y41 y42 y43 y44 y45 y46 y47 y48 y49 y50 y51 y52 y53 y54 y55 y56 y57 y58 y59 y60 y61 y62 y63 y64 y65 y66 y67 y68 y69 y70 y71 y72 y73 y74 y75 y76 y77 y78 y79 y80 y81 y82 y83 y84 y85 y86 y87 y88 y89 y90 y91 y92 y93 y94 y95 y96 y97 y98 y99 y100 y101 y102 y103 y104 y105 y106 y107 y108 y109 y110 y111 y112 y113 y114 y115 y116 y117 y118 y119 y120 y121 y122 y123 y124 y125 y126 y127 y128 y129 y130 y131 y132 y133 y134 y135 y136 y137 y138 y139 y140 y141 y142 y143 y144 y145 y146 y147 y148 y149 y150 y151 y152 y153 y154 y155 y156 y157 y158 y159 y160 y161 y162 y163 y164 y165 y166 y167 y168 y169 y170 y171 y172 y173 y174 y175 y176 y177 y178 y179 y180 y181 y182 y183 y184 y185 y186 y187 y188 y189 y190 y191 y192 y193 y194 y195 y196 y197 y198 y199 y200 y201 y202 y203 y204 y205 y206 : Value}
    (hb9 : w1.cell? ⟨bb, 10, none⟩ = some (.slice va m vc)) (zb9 : w1.frozen? ⟨bb, 10, none⟩ = false) (hpc : w1.heap[pc]? = some (.cells #[.slice (some ⟨gb, 0, none⟩) 1 gcap, .int .u64 clk, .nilIface] 58 (0, 0))) (hpt : w1.heap[pt]? = some (.cells #[.int .u64 n, .int .i64 s, .pointer none] 28 (0, 0)))
    (how : w1.ownsRow base 60 6 (.slice va m vc) m (entCells es)) (hm : m ≤ 1000) (hbase : base ≤ w1.heap.size) (hbn : ∀ k, (Value.slice va m vc).ownBlock = some k → k ≠ bb ∧ k ≠ pc ∧ k ≠ pt) (hbb : bb < w1.heap.size)
    (hK : ∀ (t177 t178 t179 t180 t181 t182 t183 t184 t185 t186 t187 t188 : Value) (v' : Value) (w3 wx : World), w3.ownsRow base 60 6 v' (m + 1) (entCells (es ++ [⟨gb, gcap, key, clk, s, n⟩])) → (w1.alloc (.cells #[.slice (some ⟨gb, 0, none⟩) 1 gcap, .int .u64 clk, .nilIface, .int .u64 n, .int .i64 s, .pointer none] 60)).grownBy w3 (Value.slice va m vc).ownBlock → (v'.ownBlock = (Value.slice va m vc).ownBlock ∨ ∃ k, v'.ownBlock = some k ∧ w1.heap.size ≤ k) → wx.heap = (w3.setCell ⟨bb, 10, none⟩ v').heap → wx.os = w3.os → wx.tape = w3.tape → wx.output = w3.output → KK { tmps := List.toArray (y0 :: (.pointer (some ⟨bb, 0, none⟩)) :: y2 :: y3 :: y4 :: y5 :: y6 :: y7 :: (.pointer (some ⟨pc, 0, none⟩)) :: (.pointer (some ⟨pt, 0, none⟩)) :: y10 :: y11 :: y12 :: y13 :: y14 :: y15 :: y16 :: y17 :: y18 :: y19 :: y20 :: y21 :: y22 :: y23 :: y24 :: y25 :: y26 :: y27 :: y28 :: y29 :: y30 :: y31 :: y32 :: y33 :: y34 :: y35 :: y36 :: y37 :: y38 :: y39 :: y40 :: y41 :: y42 :: y43 :: y44 :: y45 :: y46 :: y47 :: y48 :: y49 :: y50 :: y51 :: y52 :: y53 :: y54 :: y55 :: y56 :: y57 :: y58 :: y59 :: y60 :: y61 :: y62 :: y63 :: y64 :: y65 :: y66 :: y67 :: y68 :: y69 :: y70 :: y71 :: y72 :: y73 :: y74 :: y75 :: y76 :: y77 :: y78 :: y79 :: y80 :: y81 :: y82 :: y83 :: y84 :: y85 :: y86 :: y87 :: y88 :: y89 :: y90 :: y91 :: y92 :: y93 :: y94 :: y95 :: y96 :: y97 :: y98 :: y99 :: y100 :: y101 :: y102 :: y103 :: y104 :: y105 :: y106 :: y107 :: y108 :: y109 :: y110 :: y111 :: y112 :: y113 :: y114 :: y115 :: y116 :: y117 :: y118 :: y119 :: y120 :: y121 :: y122 :: y123 :: y124 :: y125 :: y126 :: y127 :: y128 :: y129 :: y130 :: y131 :: y132 :: y133 :: y134 :: y135 :: y136 :: y137 :: y138 :: y139 :: y140 :: y141 :: y142 :: y143 :: y144 :: y145 :: y146 :: y147 :: y148 :: y149 :: y150 :: y151 :: y152 :: y153 :: y154 :: y155 :: y156 :: y157 :: y158 :: y159 :: y160 :: y161 :: y162 :: y163 :: y164 :: y165 :: y166 :: y167 :: y168 :: y169 :: y170 :: y171 :: y172 :: y173 :: y174 :: y175 :: y176 :: (t177) :: (t178) :: (t179) :: (t180) :: (t181) :: (t182) :: (t183) :: (t184) :: (t185) :: (t186) :: (t187) :: (t188) :: y189 :: y190 :: y191 :: y192 :: y193 :: y194 :: y195 :: y196 :: y197 :: y198 :: y199 :: y200 :: y201 :: y202 :: y203 :: y204 :: y205 :: y206 :: []), defers := [] } wx) :
    Code.wp Ybad.prog (rgOf Ybad.f10.body 30) (Exit.then KK Q) { tmps := List.toArray (y0 :: (.pointer (some ⟨bb, 0, none⟩)) :: y2 :: y3 :: y4 :: y5 :: y6 :: y7 :: (.pointer (some ⟨pc, 0, none⟩)) :: (.pointer (some ⟨pt, 0, none⟩)) :: y10 :: y11 :: y12 :: y13 :: y14 :: y15 :: y16 :: y17 :: y18 :: y19 :: y20 :: y21 :: y22 :: y23 :: y24 :: y25 :: y26 :: y27 :: y28 :: y29 :: y30 :: y31 :: y32 :: y33 :: y34 :: y35 :: y36 :: y37 :: y38 :: y39 :: y40 :: y41 :: y42 :: y43 :: y44 :: y45 :: y46 :: y47 :: y48 :: y49 :: y50 :: y51 :: y52 :: y53 :: y54 :: y55 :: y56 :: y57 :: y58 :: y59 :: y60 :: y61 :: y62 :: y63 :: y64 :: y65 :: y66 :: y67 :: y68 :: y69 :: y70 :: y71 :: y72 :: y73 :: y74 :: y75 :: y76 :: y77 :: y78 :: y79 :: y80 :: y81 :: y82 :: y83 :: y84 :: y85 :: y86 :: y87 :: y88 :: y89 :: y90 :: y91 :: y92 :: y93 :: y94 :: y95 :: y96 :: y97 :: y98 :: y99 :: y100 :: y101 :: y102 :: y103 :: y104 :: y105 :: y106 :: y107 :: y108 :: y109 :: y110 :: y111 :: y112 :: y113 :: y114 :: y115 :: y116 :: y117 :: y118 :: y119 :: y120 :: y121 :: y122 :: y123 :: y124 :: y125 :: y126 :: y127 :: y128 :: y129 :: y130 :: y131 :: y132 :: y133 :: y134 :: y135 :: y136 :: y137 :: y138 :: y139 :: y140 :: y141 :: y142 :: y143 :: y144 :: y145 :: y146 :: y147 :: y148 :: y149 :: y150 :: y151 :: y152 :: y153 :: y154 :: y155 :: y156 :: y157 :: y158 :: y159 :: y160 :: y161 :: y162 :: y163 :: y164 :: y165 :: y166 :: y167 :: y168 :: y169 :: y170 :: y171 :: y172 :: y173 :: y174 :: y175 :: y176 :: y177 :: y178 :: y179 :: y180 :: y181 :: y182 :: y183 :: y184 :: y185 :: y186 :: y187 :: y188 :: y189 :: y190 :: y191 :: y192 :: y193 :: y194 :: y195 :: y196 :: y197 :: y198 :: y199 :: y200 :: y201 :: y202 :: y203 :: y204 :: y205 :: y206 :: []), defers := [] } w1 := by
  have c0 : w1.cell? ⟨pc, 0, none⟩ = some (.slice (some ⟨gb, 0, none⟩) 1 gcap) := (cell_of_heap hpc 0).trans rfl
  have c1 : w1.cell? ⟨pc, 1, none⟩ = some (.int .u64 clk) := (cell_of_heap hpc 1).trans rfl
  have c2 : w1.cell? ⟨pc, 2, none⟩ = some .nilIface := (cell_of_heap hpc 2).trans rfl
  have d0 : w1.cell? ⟨pt, 0, none⟩ = some (.int .u64 n) := (cell_of_heap hpt 0).trans rfl
  have d1 : w1.cell? ⟨pt, 1, none⟩ = some (.int .i64 s) := (cell_of_heap hpt 1).trans rfl
  have d2 : w1.cell? ⟨pt, 2, none⟩ = some (.pointer none) := (cell_of_heap hpt 2).trans rfl
  have lpc := lt_of_heap hpc
  have lpt := lt_of_heap hpt
  have HW := hide how
  have HN := hide hbn
  have HK := hide hK
  clear hK how hbn hpc hpt
  have X1 : ∀ W : World, W.heap = (w1.alloc (.cells #[.slice (some ⟨gb, 0, none⟩) 1 gcap, .int .u64 clk, .nilIface, .int .u64 n, .int .i64 s, .pointer none] 60)).heap → W.heap[w1.heap.size]? = some (.cells (Ent.cells ⟨gb, gcap, key, clk, s, n⟩).toArray 60 (0, 0)) := fun W hW => by
    have h := heap_alloc_new' w1 (.cells #[.slice (some ⟨gb, 0, none⟩) 1 gcap, .int .u64 clk, .nilIface, .int .u64 n, .int .i64 s, .pointer none] 60)
    rw [← hW] at h
    exact h
  conv => arg 2; whnf
  refine wp_region_noPanic ?_
  go_region_law (refine step_append33 (base := base) (es := es) (v := .slice va m vc) (by rfl) (.tmp 181) (.tmp 185) (by rfl) (by rfl) (by rfl) ⟨gb, gcap, key, clk, s, n⟩ (by exact X1 _ rfl) (by exact (unhide HW).alloc _) (by omega) (by exact Nat.le_trans hbase (by simp)) ?_; intro v' w3 ho3 hg3 hl3; obtain ⟨va', vc', hv3⟩ := sl_shape ho3; subst hv3; have hg3' := grown_of_drew hg3; have hbk := (hg3'.block bb (by simp; omega) (fun e => (HN.out bb e.symm).1 rfl)).trans (Below.heap_alloc _ _ _ hbb); have b9' := (World.cell?_of_block (w := w1) (a := ⟨bb, 10, none⟩) hbk).trans hb9; have z9' := (World.frozen?_of_block (w := w1) (a := ⟨bb, 10, none⟩) hbk).trans zb9; have HO3 := hide ho3; have HG3 := hide hg3'; have HL3 := hide hl3; clear ho3 hg3 hg3' hbk hl3)
  all_goals exact HK.out _ _ _ _ _ _ _ _ _ _ _ _ (.slice va' (m + 1) vc') w3 _ HO3.out HG3.out (or_snd HL3.out (fun h => ⟨_, h, by show w1.heap.size ≤ (w1.alloc _).heap.size; simp⟩)) rfl rfl rfl rfl

end Go.Proofs.YbulkagdqDoor

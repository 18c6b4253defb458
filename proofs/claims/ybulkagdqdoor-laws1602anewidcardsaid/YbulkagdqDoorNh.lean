import Derived.Test.YbulkagdqDoorNg
namespace Go.Proofs.YbulkagdqDoor
open Go.RowKit
set_option linter.unusedVariables false
set_option maxRecDepth 100000

/-- The three blocks that place makes first. -/
structure PlAt (X : World) (s : Nat) (ib ic : Nat) (clk ts tn : Int) : Prop where
  pc : X.heap[s]? = some (.cells #[.slice (some ⟨ib, 0, none⟩) 1 ic, .int .u64 clk, .nilIface] 58 (0, 0))
  pt : X.heap[s + 1]? = some (.cells #[.int .u64 tn, .int .i64 ts, .pointer none] 28 (0, 0))
  po : X.heap[s + 1 + 1]? = some (.cells #[.slice none 0 0, .int .u64 0, .nilIface, .bool false, .bool false, .slice none 0 0, .int .u64 0, .nilIface, .slice none 0 0] 75 (0, 0))
theorem PlAt.kp {D : List Nat} {X Y : World} {s ib ic : Nat} {clk ts tn : Int} (h : PlAt X s ib ic clk ts tn) (k : Kp D X Y) (h0 : s ∉ D) (h1 : s + 1 ∉ D) (h2 : s + 1 + 1 ∉ D) : PlAt Y s ib ic clk ts tn :=
  ⟨(k.block _ (lt_of_heap h.pc) h0).trans h.pc, (k.block _ (lt_of_heap h.pt) h1).trans h.pt, (k.block _ (lt_of_heap h.po) h2).trans h.po⟩
theorem place_three (w : World) (o1 o2 o3 : Obj) : ((w.alloc o1).alloc o2 |>.alloc o3).heap[w.heap.size]? = some o1 ∧ ((w.alloc o1).alloc o2 |>.alloc o3).heap[w.heap.size + 1]? = some o2 ∧ ((w.alloc o1).alloc o2 |>.alloc o3).heap[w.heap.size + 1 + 1]? = some o3 ∧ Below w.heap.size w ((w.alloc o1).alloc o2 |>.alloc o3) ∧ ((w.alloc o1).alloc o2 |>.alloc o3).heap.size = w.heap.size + 1 + 1 + 1 := by
  have s1 : (w.alloc o1).heap.size = w.heap.size + 1 := by simp
  have s2 : ((w.alloc o1).alloc o2).heap.size = w.heap.size + 1 + 1 := by simp
  refine ⟨?_, ?_, ?_, below_al (below_al (below_al (Below.refl _ _) _) _) _, by simp⟩
  · rw [Below.heap_alloc _ _ _ (by omega), Below.heap_alloc _ _ _ (by omega)]
    exact heap_alloc_new' w o1
  · rw [Below.heap_alloc _ _ _ (by omega), ← s1]
    exact heap_alloc_new' _ o2
  · rw [← s2]
    exact heap_alloc_new' _ o3
theorem TabAt.tag {w : World} {tb : Nat} {K P R : Int} {arb onp : Value} {cnt : Int} (h : TabAt w tb K P R arb onp cnt) : ∃ cs, w.heap[tb]? = some (.cells cs 70 (0, 0)) := by
  obtain ⟨cs, h1, _⟩ := h.at_
  exact ⟨cs, h1⟩
theorem BukAt.tag {w : World} {bb : Nat} {chg : Int} {con rep : Value} (h : BukAt w bb chg con rep) : ∃ cs, w.heap[bb]? = some (.cells cs 56 (0, 0)) := by
  obtain ⟨cs, h1, _⟩ := h.at_
  exact ⟨cs, h1⟩
theorem TabAt.count {w : World} {tb : Nat} {K P R : Int} {arb onp : Value} {cnt : Int} (h : TabAt w tb K P R arb onp cnt) (c : Int) : TabAt (w.setCell ⟨tb, 32, none⟩ (.int .i64 c)) tb K P R arb onp c := by
  obtain ⟨cs, h1, t1, t2, t3, t4, t5, t6⟩ := h.at_
  have g : ∀ i, i ≠ 32 → (cs.setIfInBounds 32 (.int .i64 c))[i]? = cs[i]? := fun i hi => by rw [Array.getElem?_setIfInBounds, if_neg (fun e => hi e.symm)]
  have hl := (Array.getElem?_eq_some_iff.1 t6).1
  exact ⟨_, heap_set h1 _, (g 1 (by decide)).trans t1, (g 2 (by decide)).trans t2, (g 4 (by decide)).trans t3, (g 6 (by decide)).trans t4, (g 10 (by decide)).trans t5, by simp [hl]⟩
theorem BukAt.con {w : World} {bb : Nat} {chg : Int} {con rep : Value} (h : BukAt w bb chg con rep) (v : Value) : BukAt (w.setCell ⟨bb, 9, none⟩ v) bb chg v rep := by
  obtain ⟨cs, h1, t1, t2, t3⟩ := h.at_
  have g : ∀ i, i ≠ 9 → (cs.setIfInBounds 9 v)[i]? = cs[i]? := fun i hi => by rw [Array.getElem?_setIfInBounds, if_neg (fun e => hi e.symm)]
  have hl := (Array.getElem?_eq_some_iff.1 t2).1
  exact ⟨_, heap_set h1 _, (g 6 (by decide)).trans t1, by simp [hl], (g 10 (by decide)).trans t3⟩
theorem BukAt.repl {w : World} {bb : Nat} {chg : Int} {con rep : Value} (h : BukAt w bb chg con rep) (v : Value) : BukAt (w.setCell ⟨bb, 10, none⟩ v) bb chg con v := by
  obtain ⟨cs, h1, t1, t2, t3⟩ := h.at_
  have g : ∀ i, i ≠ 10 → (cs.setIfInBounds 10 v)[i]? = cs[i]? := fun i hi => by rw [Array.getElem?_setIfInBounds, if_neg (fun e => hi e.symm)]
  have hl := (Array.getElem?_eq_some_iff.1 t3).1
  exact ⟨_, heap_set h1 _, (g 6 (by decide)).trans t1, (g 9 (by decide)).trans t2, by simp [hl]⟩
theorem own_block_of {w w' : World} {base : Nat} {e : TypeId} {size : Nat} {v : Value} {n : Nat} {xs : List Value} (h : w.ownsRow base e size v n xs) (hb : ∀ k, v.ownBlock = some k → w'.heap[k]? = w.heap[k]?) : w'.ownsRow base e size v n xs := by
  refine ⟨h.1, ?_⟩
  rcases h.2 with h0 | ⟨g, cap, cur, e', h1, hg, rest⟩
  · exact .inl h0
  · exact .inr ⟨g, cap, cur, e', h1, (hb g (by rw [e']; rfl)).trans hg, rest⟩
theorem Kp.drewN {D : List Nat} {a w : World} (h : Kp D a w) (n : Nat) : Kp D a (w.drewN n) := ⟨h.os, h.tape, h.output, h.size, h.block⟩
def outAdd (b c : Nat) (clk : Int) : Value := .agg #[.slice (some ⟨b, 0, none⟩) 1 c, .int .u64 clk, .nilIface, .bool true, .bool false, .slice none 0 0, .int .u64 0, .nilIface, .slice none 0 0]

theorem heap_eq {w : World} {o : Obj} {w3 : World} {row : Option Nat} (hg : (w.alloc o).grownBy w3 row) {k : Nat} (hk : k < w.heap.size) (hn : row ≠ some k) : w3.heap[k]? = w.heap[k]? :=
  (hg.block k (by simp; omega) (fun e => hn e.symm)).trans (Below.heap_alloc _ _ _ hk)
theorem after_app {X w3 wx : World} {bb i : Nat} {row : Option Nat} {v' : Value} {base m : Nat} {xs : List Value} {o : Obj} {cs : Array Value} (hb : X.heap[bb]? = some (.cells cs 56 (0, 0))) (ho3 : w3.ownsRow base 60 6 v' m xs) (hg : (X.alloc o).grownBy w3 row) (hne : row ≠ some bb)
    (hwx : wx.heap = (w3.setCell ⟨bb, i, none⟩ v').heap) (h7 : wx.os = w3.os) (h8 : wx.tape = w3.tape) (h9 : wx.output = w3.output) :
    wx.ownsRow base 60 6 v' m xs ∧ Kp (bb :: row.toList) X wx ∧ wx.heap[bb]? = ((X.setCell ⟨bb, i, none⟩ v').heap[bb]?) := by
  have hb3 : w3.heap[bb]? = some (.cells cs 56 (0, 0)) := (heap_eq hg (lt_of_heap hb) hne).trans hb
  refine ⟨own_block_of ho3 (fun k hk => ?_), ⟨h7.trans hg.os, h8.trans hg.tape, h9.trans hg.output, ?_, fun k hk hn => ?_⟩, ?_⟩
  · obtain ⟨cs', hc⟩ := own_tag ho3 hk
    rw [hwx]
    exact Below.heap_setCell _ _ _ _ (heap_ne hc hb3 (by decide))
  · have := hg.size
    rw [hwx, size_setCell]
    simp at this
    omega
  · rw [hwx, Below.heap_setCell _ _ _ _ (fun e => hn (by rw [e]; simp))]
    exact heap_eq hg hk (fun e => hn (by rw [e]; simp))
  · rw [hwx, heap_set hb3, heap_set hb]
theorem after_app9 {X w3 wx : World} {bb : Nat} {chg : Int} {con rep v' : Value} {base m : Nat} {xs : List Value} {o : Obj} (hB : BukAt X bb chg con rep) (ho3 : w3.ownsRow base 60 6 v' m xs) (hg : (X.alloc o).grownBy w3 con.ownBlock) (hne : ∀ k, con.ownBlock = some k → k ≠ bb)
    (hwx : wx.heap = (w3.setCell ⟨bb, 9, none⟩ v').heap) (h7 : wx.os = w3.os) (h8 : wx.tape = w3.tape) (h9 : wx.output = w3.output) :
    BukAt wx bb chg v' rep ∧ wx.ownsRow base 60 6 v' m xs ∧ Kp (bb :: con.ownBlock.toList) X wx := by
  obtain ⟨cs, hb⟩ := hB.tag
  obtain ⟨r1, r2, r3⟩ := after_app hb ho3 hg (fun e => hne bb e rfl) hwx h7 h8 h9
  exact ⟨(hB.con v').of_block r3, r1, r2⟩
theorem after_app10 {X w3 wx : World} {bb : Nat} {chg : Int} {con rep v' : Value} {base m : Nat} {xs : List Value} {o : Obj} (hB : BukAt X bb chg con rep) (ho3 : w3.ownsRow base 60 6 v' m xs) (hg : (X.alloc o).grownBy w3 rep.ownBlock) (hne : ∀ k, rep.ownBlock = some k → k ≠ bb)
    (hwx : wx.heap = (w3.setCell ⟨bb, 10, none⟩ v').heap) (h7 : wx.os = w3.os) (h8 : wx.tape = w3.tape) (h9 : wx.output = w3.output) :
    BukAt wx bb chg con v' ∧ wx.ownsRow base 60 6 v' m xs ∧ Kp (bb :: rep.ownBlock.toList) X wx := by
  obtain ⟨cs, hb⟩ := hB.tag
  obtain ⟨r1, r2, r3⟩ := after_app hb ho3 hg (fun e => hne bb e rfl) hwx h7 h8 h9
  exact ⟨(hB.repl v').of_block r3, r1, r2⟩

set_option maxHeartbeats 4000000 in
theorem placeA (tb bb : Nat) (K P R : Int) (arb onp rep : Value) (cnt chg : Int) (xb xc key : Nat) (xclk s n : Int) (va : Option Addr) (len vc base : Nat) (es : List Ent) (w : World)
    (hT : TabAt w tb K P R arb onp cnt) (hB : BukAt w bb chg (.slice va len vc) rep) (how : w.ownsRow base 60 6 (.slice va len vc) len (entCells es)) (hlK : (len : Int) < K) (hl : len ≤ 1000) (hid : IdAt w xb xc key) (hc0 : 0 ≤ cnt) (hc1 : cnt ≤ 1000) (hbase : base ≤ w.heap.size) :
    Calls Ybad.prog 10 #[.pointer (some ⟨tb, 0, none⟩), .pointer (some ⟨bb, 0, none⟩), .int .i64 (-1), conV xb xc xclk, tmV s n] w fun e w' => ∃ gb gcap v', e = .returned (.tuple #[outAdd gb gcap xclk, .nilIface]) ∧ w.heap.size ≤ gb ∧ IdAt w' gb gcap key ∧ BukAt w' bb chg v' rep ∧ w'.ownsRow base 60 6 v' (len + 1) (entCells (es ++ [⟨gb, gcap, key, xclk, s, n⟩])) ∧ TabAt w' tb K P R arb onp (cnt + 1)
      ∧ Kp (tb :: bb :: (Value.slice va len vc).ownBlock.toList) w w' := by
  obtain ⟨z0, z1, z2, hb0, hS1⟩ := place_three w (.cells #[.slice (some ⟨xb, 0, none⟩) 1 xc, .int .u64 xclk, .nilIface] 58) (.cells #[.int .u64 n, .int .i64 s, .pointer none] 28) (.cells #[.slice none 0 0, .int .u64 0, .nilIface, .bool false, .bool false, .slice none 0 0, .int .u64 0, .nilIface, .slice none 0 0] 75)
  have ltb := hT.lt
  have lbb := hB.lt
  go_enter Ybad.func10, Ybad.ntmps10
  unfold conV tmV
  go_upto_region 12 with fail
  generalize ((w.alloc (.cells #[.slice (some ⟨xb, 0, none⟩) 1 xc, .int .u64 xclk, .nilIface] 58)).alloc (.cells #[.int .u64 n, .int .i64 s, .pointer none] 28)).alloc (.cells #[.slice none 0 0, .int .u64 0, .nilIface, .bool false, .bool false, .slice none 0 0, .int .u64 0, .nilIface, .slice none 0 0] 75) = X1 at z0 z1 z2 hb0 hS1 ⊢
  have hT1 := hT.of_block (hb0.block _ ltb)
  have hB1 := hB.of_block (hb0.block _ lbb)
  have hid1 := hid.of_block (hb0.block _ hid.lt)
  obtain ⟨cs, ht, t1, t2, t3, t4, t5, t6⟩ := hT1.at_
  obtain ⟨bs, hbb, u1, u2, u3⟩ := hB1.at_
  have cK := (cell_of_heap ht 1).trans t1
  have c9 := (cell_of_heap hbb 9).trans u2
  go_quiet (fail)
  have hK2 : Kp [] w (X1.drewN nq) := (Kp.nil.2 hb0).drewN nq
  have hP2 : PlAt (X1.drewN nq) w.heap.size xb xc xclk s n := ⟨z0, z1, z2⟩
  have hT2 : TabAt (X1.drewN nq) tb K P R arb onp cnt := hT1.of_block rfl
  have hB2 : BukAt (X1.drewN nq) bb chg (.slice va len vc) rep := hB1.of_block rfl
  have hi2 : IdAt (X1.drewN nq) xb xc key := hid1.of_block rfl
  have hS2 : (X1.drewN nq).heap.size = w.heap.size + 1 + 1 + 1 := hS1
  clear hT1 hB1 hid1 ht t1 t2 t3 t4 t5 t6 hbb u1 u2 u3 cK c9 z0 z1 z2 hb0 hS1
  go_upto_region 13 with fail
  generalize X1.drewN nq = X2 at hK2 hP2 hT2 hB2 hi2 hS2 ⊢
  have d0 : X2.cell? ⟨w.heap.size, 0, none⟩ = some (.slice (some ⟨xb, 0, none⟩) 1 xc) := (cell_of_heap hP2.pc 0).trans rfl
  have C := hide (clone1 xb xc key X2 hi2.cell)
  go_upto_region 14 with fail
  refine C.out.mono ?_
  rintro e X3 ⟨gb, gcap, rfl, hgb, hig, hb3⟩
  have e0 := (World.cell?_of_block (w := X2) (a := ⟨w.heap.size, 0, none⟩) (hb3.block w.heap.size (by omega))).trans d0
  have ef := free_of_heap ((hb3.block w.heap.size (by omega)).trans hP2.pc) 0
  go_upto_region 14 with fail
  have hP3 := hP2.kp (Kp.nil.2 hb3) (by simp) (by simp) (by simp)
  have hk4 : Kp [w.heap.size] X3 (X3.setCell ⟨w.heap.size, 0, none⟩ (.slice (some ⟨gb, 0, none⟩) 1 gcap)) := (Kp.refl _ _).setCell (by simp) _
  have hS3 := hb3.size
  have hP4 : PlAt (X3.setCell ⟨w.heap.size, 0, none⟩ (.slice (some ⟨gb, 0, none⟩) 1 gcap)) w.heap.size gb gcap xclk s n := ⟨(heap_set hP3.pc _).trans rfl, (hk4.block _ (lt_of_heap hP3.pt) (by simp)).trans hP3.pt, (hk4.block _ (lt_of_heap hP3.po) (by simp; omega)).trans hP3.po⟩
  have hK4 : Kp [] w (X3.setCell ⟨w.heap.size, 0, none⟩ (.slice (some ⟨gb, 0, none⟩) 1 gcap)) := (hK2.ofBelow hb3).setNew (Nat.le_refl _) _
  have hT4 := (hT2.of_block (hb3.block _ (by omega))).of_block (hk4.block tb (by omega) (by simp; omega))
  have hB4 := (hB2.of_block (hb3.block _ (by omega))).of_block (hk4.block bb (by omega) (by simp; omega))
  have hi4 := hig.of_block (hk4.block gb hig.lt (by simp; omega))
  have hS4 : w.heap.size + 1 + 1 + 1 ≤ (X3.setCell ⟨w.heap.size, 0, none⟩ (.slice (some ⟨gb, 0, none⟩) 1 gcap)).heap.size := by rw [size_setCell]; omega
  generalize X3.setCell ⟨w.heap.size, 0, none⟩ (.slice (some ⟨gb, 0, none⟩) 1 gcap) = X4 at hP4 hK4 hT4 hB4 hi4 hS4 hk4 ⊢
  have hlow : ∀ k, (Value.slice va len vc).ownBlock = some k → k < w.heap.size := fun k hk => by
    obtain ⟨cs, hc⟩ := own_tag how hk
    exact lt_of_heap hc
  have how4 : X4.ownsRow base 60 6 (.slice va len vc) len (entCells es) := own_block_of how (fun k hk => hK4.block k (hlow k hk) (by simp))
  obtain ⟨bs, hbb, u1, u2, u3⟩ := hB4.at_
  have hne : ∀ k, (Value.slice va len vc).ownBlock = some k → k ≠ bb ∧ k ≠ w.heap.size ∧ k ≠ w.heap.size + 1 := fun k hk => by
    obtain ⟨cs, hc⟩ := own_tag how4 hk
    have := hlow k hk
    exact ⟨heap_ne hc hbb (by decide), by omega, by omega⟩
  have HP4 := hide hP4
  have HK4 := hide hK4
  have HT4 := hide hT4
  have HB4 := hide hB4
  have HI4 := hide hi4
  have HL := hide hlow
  refine append14 (base := base) (key := key) (es := es) ((cell_of_heap hbb 9).trans u2) (free_of_heap hbb 9) hP4.pc hP4.pt how4 (by omega) (by omega) hne (lt_of_heap hbb) ?_
  clear hP4 hK4 hT4 hB4 hi4 hlow hP2 hK2 hT2 hB2 hi2 hP3 hk4 hb3 hig C d0 hT hB how4
  intro t92 t93 t94 t95 t96 t97 t98 t99 t100 t101 t102 t103 v' w3 wx ho3 hg3 hl3 hwx h7 h8 h9
  obtain ⟨hBx, hox, hkx⟩ := after_app9 HB4.out ho3 hg3 (fun k hk => (hne k hk).1) hwx h7 h8 h9
  have hD : ∀ x, x ∈ (bb :: (Value.slice va len vc).ownBlock.toList) → x < w.heap.size := fun x hx => by
    rcases List.mem_cons.1 hx with rfl | hx
    · exact lbb
    · exact HL.out x (by simpa using hx)
  obtain ⟨tcs, htt⟩ := HT4.out.tag
  have htn : tb ∉ (bb :: (Value.slice va len vc).ownBlock.toList) := fun hx => by
    rcases List.mem_cons.1 hx with e | hx
    · exact heap_ne htt hbb (by decide) e
    · have hx' : (Value.slice va len vc).ownBlock = some tb := by simpa using hx
      obtain ⟨cs', hc⟩ := own_tag how hx'
      have hc4 := (HK4.out.block tb ltb (by simp)).trans hc
      exact heap_ne htt hc4 (by decide) rfl
  have hTx := HT4.out.of_block (hkx.block tb (by omega) htn)
  have hPx := HP4.out.kp hkx (fun h => by have := hD _ h; omega) (fun h => by have := hD _ h; omega) (fun h => by have := hD _ h; omega)
  have hix := HI4.out.of_block (hkx.block gb HI4.out.lt (fun h => by have := hD _ h; omega))
  have hSx : w.heap.size + 1 + 1 + 1 ≤ wx.heap.size := Nat.le_trans hS4 hkx.size
  have hKx : Kp (tb :: bb :: (Value.slice va len vc).ownBlock.toList) w wx := (HK4.out.mono (by simp)).trans (hkx.mono (fun x hx => List.mem_cons_of_mem _ hx))
  clear hkx ho3 hg3 hwx h7 h8 h9 HP4 HK4 HT4 HB4 HI4
  obtain ⟨tcs', htt'⟩ := hTx.tag
  obtain ⟨cs, ht, t1, t2, t3, t4, t5, t6⟩ := hTx.at_
  have c32 := (cell_of_heap ht 32).trans t6
  have f32 := free_of_heap ht 32
  -- behind the count
  have hTy := hTx.count (cnt + 1)
  have hky : Kp [tb] wx (wx.setCell ⟨tb, 32, none⟩ (.int .i64 (cnt + 1))) := (Kp.refl _ _).setCell (by simp) _
  have hPy := hPx.kp hky (by simp; omega) (by simp; omega) (by simp; omega)
  obtain ⟨bcs, hbb'⟩ := hBx.tag
  have hBy := hBx.of_block (hky.block bb (lt_of_heap hbb') (by simpa using (heap_ne ht hbb' (by decide)).symm))
  have hoy : (wx.setCell ⟨tb, 32, none⟩ (.int .i64 (cnt + 1))).ownsRow base 60 6 v' (len + 1) (entCells (es ++ [⟨gb, gcap, key, xclk, s, n⟩])) := own_block_of hox (fun k hk => by
    obtain ⟨cs', hc⟩ := own_tag hox hk
    exact hky.block k (lt_of_heap hc) (by simpa using heap_ne hc ht (by decide)))
  have hiy := hix.of_block (hky.block gb hix.lt (by simp; omega))
  have hKy : Kp (tb :: bb :: (Value.slice va len vc).ownBlock.toList) w (wx.setCell ⟨tb, 32, none⟩ (.int .i64 (cnt + 1))) := hKx.setCell (by simp) _
  clear hTx hPx hBx hox hix hKx hky ht t1 t2 t3 t4 t5 t6 htt' hbb'
  go_upto_region 16 with fail
  generalize wx.setCell ⟨tb, 32, none⟩ (.int .i64 (cnt + 1)) = Y at hTy hPy hBy hoy hiy hKy ⊢
  -- behind the outcome's store
  have g0 : Y.cell? ⟨w.heap.size, 0, none⟩ = some (.slice (some ⟨gb, 0, none⟩) 1 gcap) := (cell_of_heap hPy.pc 0).trans rfl
  have g1 : Y.cell? ⟨w.heap.size, 1, none⟩ = some (.int .u64 xclk) := (cell_of_heap hPy.pc 1).trans rfl
  have g2 : Y.cell? ⟨w.heap.size, 2, none⟩ = some .nilIface := (cell_of_heap hPy.pc 2).trans rfl
  have y := cell_of_heap hPy.po
  have yf := free_of_heap hPy.po
  have hkz : Kp [w.heap.size + 1 + 1] Y (Y.setCells (w.heap.size + 1 + 1) 0 [.slice (some ⟨gb, 0, none⟩) 1 gcap, .int .u64 xclk, .nilIface, .bool true, .bool false, .slice none 0 0, .int .u64 0, .nilIface, .slice none 0 0]) := Kp.setCells (by simp) _ _ (Kp.refl _ _)
  have h9 := heap_setAll [.slice (some ⟨gb, 0, none⟩) 1 gcap, .int .u64 xclk, .nilIface, .bool true, .bool false, .slice none 0 0, .int .u64 0, .nilIface, .slice none 0 0] hPy.po rfl
  have f8 : ∀ i, (Y.setCells (w.heap.size + 1 + 1) 0 [.slice (some ⟨gb, 0, none⟩) 1 gcap, .int .u64 xclk, .nilIface, .bool true, .bool false, .slice none 0 0, .int .u64 0, .nilIface, .slice none 0 0]).cell? ⟨w.heap.size + 1 + 1, i, none⟩ = ([.slice (some ⟨gb, 0, none⟩) 1 gcap, .int .u64 xclk, .nilIface, .bool true, .bool false, .slice none 0 0, .int .u64 0, .nilIface, .slice none 0 0] : List Value)[i]? := fun i => by rw [cell_of_heap h9]; simp
  have p1 := hTy.of_block (hkz.block tb hTy.lt (by simp; omega))
  have p2 := hBy.of_block (hkz.block bb hBy.lt (by simp; omega))
  have p3 := own_block_of hoy (w' := Y.setCells (w.heap.size + 1 + 1) 0 [.slice (some ⟨gb, 0, none⟩) 1 gcap, .int .u64 xclk, .nilIface, .bool true, .bool false, .slice none 0 0, .int .u64 0, .nilIface, .slice none 0 0]) (fun k hk => by
    obtain ⟨cs', hc⟩ := own_tag hoy hk
    exact hkz.block k (lt_of_heap hc) (by simpa using heap_ne hc hPy.po (by decide)))
  have p4 := hiy.of_block (hkz.block gb hiy.lt (by simpa using hiy.ne hPy.po (by decide)))
  have p5 := hKy.then hkz (by simp; omega)
  simp only [World.setCells, Nat.zero_add, Nat.reduceAdd] at f8 p1 p2 p3 p4 p5
  have HF := hide f8
  have HE := hide (And.intro p1 (And.intro p2 (And.intro p3 (And.intro p4 p5))))
  clear f8 p1 p2 p3 p4 p5 hkz h9 hTy hPy hBy hoy hiy hKy
  simp at y
  go_wp2
  refine bodyPost_ret (v := .tuple #[outAdd gb gcap xclk, .nilIface]) (by have f8 := unhide HF; simp [results, Ybad.results10, go_sem, outAdd, f8]) rfl ⟨gb, gcap, v', rfl, by omega, HE.out.2.2.2.1, HE.out.2.1, HE.out.2.2.1, HE.out.1, HE.out.2.2.2.2⟩

end Go.Proofs.YbulkagdqDoor

import Derived.Test.YbulkagdqDoorNl
namespace Go.Proofs.YbulkagdqDoor
open Go.RowKit
set_option linter.unusedVariables false
set_option maxRecDepth 100000

theorem delete_first (g n cap base : Nat) (es : List Ent) (w : World) (hn : es.length = n + 1) (hn2 : n + 1 ≤ 2000) (how : w.ownsRow base 60 6 (.slice (some ⟨g, 0, none⟩) (n + 1) cap) (n + 1) (entCells es)) :
    Calls Ybad.prog 25 #[.slice (some ⟨g, 0, none⟩) (n + 1) cap, .int .i64 0, .int .i64 1] w fun e w' => e = .returned (.slice (some ⟨g, 0, none⟩) n cap) ∧ w'.ownsRow base 60 6 (.slice (some ⟨g, 0, none⟩) n cap) n (entCells (es.drop 1)) ∧ Kp [g] w w' :=
  delete_any g (n + 1) cap 0 base 1 es w (by simp) hn (by omega) hn2 how
theorem own_some {w : World} {base : Nat} {e : TypeId} {size : Nat} {v : Value} {n : Nat} {xs : List Value} (h : w.ownsRow base e size v n xs) (hn : 0 < n) : ∃ g cap, v = .slice (some ⟨g, 0, none⟩) n cap := by
  rcases h.2 with ⟨_, h0⟩ | ⟨g, cap, cur, rfl, _⟩
  · omega
  · exact ⟨g, cap, rfl⟩
theorem ents_any {w : World} {base n cap : Nat} {a : Option Addr} {es : List Ent} (how : w.ownsRow base 60 6 (.slice a n cap) n (entCells es)) (hid : ∀ e ∈ es, IdAt w e.blk e.cap e.key) : EntsAt w a es := fun h => by
  have hl := how.1
  rw [entCells_length] at hl
  obtain ⟨g, c, hv⟩ := own_some how (by omega)
  cases hv
  exact ents_own how hid h
theorem low_of {w : World} {base : Nat} {e : TypeId} {size : Nat} {v : Value} {n : Nat} {xs : List Value} (how : w.ownsRow base e size v n xs) : ∀ k, v.ownBlock = some k → k < w.heap.size := fun k hk => by
  obtain ⟨cs, hc⟩ := own_tag how hk
  exact lt_of_heap hc

def MissPost (w : World) (bb : Nat) (R : Int) (ping : Bool) (p len : Nat) (es : List Ent) (xclk s n : Int) (key g cap : Nat) (chg : Int) (ra : Option Addr) (rn rc base2 : Nat) (er : List Ent) (e : Ending) (w' : World) : Prop :=
  ∃ ov gb gcap v', e = .returned (.tuple #[outOld ov, .nilIface]) ∧ OldAt w' ping (min p len) es ov ∧ w.heap.size ≤ gb ∧ IdAt w' gb gcap key ∧ BukAt w' bb chg (.slice (some ⟨g, 0, none⟩) len cap) v' ∧ ((R < (rn : Int) + 1 → w'.ownsRow base2 60 6 v' rn (entCells ((er ++ [(⟨gb, gcap, key, xclk, s, n⟩ : Ent)]).drop 1))) ∧ (¬ R < (rn : Int) + 1 → w'.ownsRow base2 60 6 v' (rn + 1) (entCells (er ++ [⟨gb, gcap, key, xclk, s, n⟩])))) ∧ Kp (bb :: (Value.slice ra rn rc).ownBlock.toList) w w'

set_option maxHeartbeats 4000000 in
theorem placeMiss (tb bb : Nat) (K : Int) (p : Nat) (R : Int) (cnt chg : Int) (ping : Bool) (pb : Nat) (xb xc key : Nat) (xclk s n : Int) (g len cap base : Nat) (es : List Ent) (w : World) (arb : Value) (ra : Option Addr) (rn rc base2 : Nat) (er : List Ent)
    (hT : TabAt w tb K (p : Int) R arb (onpV ping pb) cnt) (hB : BukAt w bb chg (.slice (some ⟨g, 0, none⟩) len cap) (.slice ra rn rc)) (how : w.ownsRow base 60 6 (.slice (some ⟨g, 0, none⟩) len cap) len (entCells es)) (hids : ∀ e ∈ es, IdAt w e.blk e.cap e.key) (hel : es.length = len) (hlK : ¬ (len : Int) < K) (hl : len ≤ 1000) (hp : p ≤ 100) (hid : IdAt w xb xc key) (hR : 0 < R) (hor : w.ownsRow base2 60 6 (.slice ra rn rc) rn (entCells er)) (hrid : ∀ e ∈ er, IdAt w e.blk e.cap e.key) (hrl : er.length = rn) (hrn : rn ≤ 100) (hb2 : base2 ≤ w.heap.size) (hkey : key < 256) (hek : ∀ e ∈ er, e.key < 256) (hmiss : ∀ e ∈ er, e.key ≠ key) (hgr : ∀ k, (Value.slice ra rn rc).ownBlock = some k → k ≠ g) :
    Calls Ybad.prog 10 #[.pointer (some ⟨tb, 0, none⟩), .pointer (some ⟨bb, 0, none⟩), .int .i64 (-1), conV xb xc xclk, tmV s n] w (MissPost w bb R ping p len es xclk s n key g cap chg ra rn rc base2 er) := by
  obtain ⟨z0, z1, z2, hb0, hS1⟩ := place_three w (.cells #[.slice (some ⟨xb, 0, none⟩) 1 xc, .int .u64 xclk, .nilIface] 58) (.cells #[.int .u64 n, .int .i64 s, .pointer none] 28) (.cells #[.slice none 0 0, .int .u64 0, .nilIface, .bool false, .bool false, .slice none 0 0, .int .u64 0, .nilIface, .slice none 0 0] 75)
  have ltb := hT.lt
  have lbb := hB.lt
  go_enter Ybad.func10, Ybad.ntmps10
  unfold conV tmV
  go_upto_region 12 with fail
  generalize ((w.alloc (.cells #[.slice (some ⟨xb, 0, none⟩) 1 xc, .int .u64 xclk, .nilIface] 58)).alloc (.cells #[.int .u64 n, .int .i64 s, .pointer none] 28)).alloc (.cells #[.slice none 0 0, .int .u64 0, .nilIface, .bool false, .bool false, .slice none 0 0, .int .u64 0, .nilIface, .slice none 0 0] 75) = X1 at z0 z1 z2 hb0 hS1 ⊢
  have hT1 := hT.of_block (hb0.block _ ltb)
  have hB1 := hB.of_block (hb0.block _ lbb)
  obtain ⟨cs, ht, t1, t2, t3, t4, t5, t6⟩ := hT1.at_
  obtain ⟨bs, hbb, u1, u2, u3⟩ := hB1.at_
  have cK := (cell_of_heap ht 1).trans t1
  have c9 := (cell_of_heap hbb 9).trans u2
  go_quiet (fail)
  have hK2 : Kp [] w (X1.drewN nq) := (Kp.nil.2 hb0).drewN nq
  have hP2 : PlAt (X1.drewN nq) w.heap.size xb xc xclk s n := ⟨z0, z1, z2⟩
  have hT2 := hT1.of_block (w' := X1.drewN nq) rfl
  have hB2 := hB1.of_block (w' := X1.drewN nq) rfl
  have hS2 : (X1.drewN nq).heap.size = w.heap.size + 1 + 1 + 1 := hS1
  have cR : (X1.drewN nq).cell? ⟨tb, 4, none⟩ = some (.int .i64 R) := (cell_of_heap ht 4).trans t3
  clear hT1 hB1 ht t1 t2 t3 t4 t5 t6 hbb u1 u2 u3 cK c9 z0 z1 z2 hb0 hS1
  go_upto_region 17 with fail
  generalize X1.drewN nq = X2 at hK2 hP2 hT2 hB2 hS2 cR ⊢
  have hRp : (0 : Int) < R := hR
  obtain ⟨bs, hbb, u1, u2, u3⟩ := hB2.at_
  have hi2 := hid.of_block (hK2.block _ hid.lt (by simp))
  have hor2 : X2.ownsRow base2 60 6 (.slice ra rn rc) rn (entCells er) := own_block_of hor (fun k hk => hK2.block k (low_of hor k hk) (by simp))
  have hrid2 : ∀ e ∈ er, IdAt X2 e.blk e.cap e.key := fun e he => (hrid e he).of_block (hK2.block _ (hrid e he).lt (by simp))
  have HH := hide (And.intro hor2 hrid2)
  have HX := hide (And.intro hek hmiss)
  have HI := hide hids
  have HR2 := hide hrid
  clear hids hrid hmiss
  go_upto_region 19 with fail
  refine index19 (key := key) (es := er) ((cell_of_heap hbb 10).trans u3) hP2.pc hrl (by omega) hkey HX.out.1 (ents_any HH.out.1 HH.out.2) hi2.cell ?_
  intro t120 t121 t122 t123 t124 t125 t126 r X3 hx hb3
  obtain rfl : r = -1 := by
    rcases hx with ⟨h, _⟩ | ⟨i, hi, h1, h2, _⟩
    · exact h
    · exact absurd h2 (HX.out.2 _ (List.getElem_mem hi))
  have k23 := Kp.nil.2 hb3
  have hP3 := hP2.kp k23 (by simp) (by simp) (by simp)
  have hK3 := hK2.trans k23
  have hT3 := hT2.of_block (hb3.block tb (by omega))
  have hB3 := hB2.of_block (hb3.block bb (by omega))
  have hi3 := hi2.of_block (hb3.block _ hi2.lt)
  have hS3 := hb3.size
  clear hP2 hK2 hT2 hB2 hi2 hor2 hrid2 HH hbb u1 u2 u3 hx hb3 k23 cR
  have d0 : X3.cell? ⟨w.heap.size, 0, none⟩ = some (.slice (some ⟨xb, 0, none⟩) 1 xc) := (cell_of_heap hP3.pc 0).trans rfl
  have C := hide (clone1 xb xc key X3 hi3.cell)
  go_upto_region 30 with fail
  refine C.out.mono ?_
  rintro e X4 ⟨gb, gcap, rfl, hgb, hig, hb4⟩
  have e0 := (World.cell?_of_block (w := X3) (a := ⟨w.heap.size, 0, none⟩) (hb4.block w.heap.size (by omega))).trans d0
  have ef := free_of_heap ((hb4.block w.heap.size (by omega)).trans hP3.pc) 0
  go_upto_region 30 with fail
  have hP4 := hP3.kp (Kp.nil.2 hb4) (by simp) (by simp) (by simp)
  have hk5 : Kp [w.heap.size] X4 (X4.setCell ⟨w.heap.size, 0, none⟩ (.slice (some ⟨gb, 0, none⟩) 1 gcap)) := (Kp.refl _ _).setCell (by simp) _
  have hS4 := hb4.size
  have hP5 : PlAt (X4.setCell ⟨w.heap.size, 0, none⟩ (.slice (some ⟨gb, 0, none⟩) 1 gcap)) w.heap.size gb gcap xclk s n := ⟨(heap_set hP4.pc _).trans rfl, (hk5.block _ (lt_of_heap hP4.pt) (by simp)).trans hP4.pt, (hk5.block _ (lt_of_heap hP4.po) (by simp; omega)).trans hP4.po⟩
  have hK5 : Kp [] w (X4.setCell ⟨w.heap.size, 0, none⟩ (.slice (some ⟨gb, 0, none⟩) 1 gcap)) := (hK3.ofBelow hb4).setNew (Nat.le_refl _) _
  have hT5 := (hT3.of_block (hb4.block _ (by omega))).of_block (hk5.block tb (by omega) (by simp; omega))
  have hB5 := (hB3.of_block (hb4.block _ (by omega))).of_block (hk5.block bb (by omega) (by simp; omega))
  have hi5 := hig.of_block (hk5.block gb hig.lt (by simp; omega))
  have hS5 : w.heap.size + 1 + 1 + 1 ≤ (X4.setCell ⟨w.heap.size, 0, none⟩ (.slice (some ⟨gb, 0, none⟩) 1 gcap)).heap.size := by rw [size_setCell]; omega
  generalize X4.setCell ⟨w.heap.size, 0, none⟩ (.slice (some ⟨gb, 0, none⟩) 1 gcap) = X5 at hP5 hK5 hT5 hB5 hi5 hS5 hk5 ⊢
  have hlow := low_of hor
  have hor5 : X5.ownsRow base2 60 6 (.slice ra rn rc) rn (entCells er) := own_block_of hor (fun k hk => hK5.block k (hlow k hk) (by simp))
  obtain ⟨bs, hbb, u1, u2, u3⟩ := hB5.at_
  have hne : ∀ k, (Value.slice ra rn rc).ownBlock = some k → k ≠ bb ∧ k ≠ w.heap.size ∧ k ≠ w.heap.size + 1 := fun k hk => by
    obtain ⟨cs, hc⟩ := own_tag hor5 hk
    have := hlow k hk
    exact ⟨heap_ne hc hbb (by decide), by omega, by omega⟩
  have HP5 := hide hP5
  have HK5 := hide hK5
  have HT5 := hide hT5
  have HB5 := hide hB5
  have HI5 := hide hi5
  have HL := hide hlow
  refine append30 (base := base2) (key := key) (es := er) ((cell_of_heap hbb 10).trans u3) (free_of_heap hbb 10) hP5.pc hP5.pt hor5 (by omega) (by omega) hne (lt_of_heap hbb) ?_
  clear hP5 hK5 hT5 hB5 hi5 hlow hP3 hK3 hT3 hB3 hi3 hP4 hk5 hb4 hig C d0 hT hB hor5
  intro t177 t178 t179 t180 t181 t182 t183 t184 t185 t186 t187 t188 v' w3 wx ho3 hg3 hl3 hwx h7 h8 h9
  obtain ⟨hBx, hox, hkx⟩ := after_app10 HB5.out ho3 hg3 (fun k hk => (hne k hk).1) hwx h7 h8 h9
  have hD : ∀ x, x ∈ (bb :: (Value.slice ra rn rc).ownBlock.toList) → x < w.heap.size := fun x hx => by
    rcases List.mem_cons.1 hx with rfl | hx
    · exact lbb
    · exact HL.out x (by simpa using hx)
  obtain ⟨tcs, htt⟩ := HT5.out.tag
  have hgb' : ∃ cs, w.heap[g]? = some (.cells cs 60 (0, 0)) := own_heap how
  have htag : ∀ (k : Nat) (cs : Array Value) (t : TypeId), X5.heap[k]? = some (.cells cs t (0, 0)) → t ≠ 56 → t ≠ 60 → k ∉ (bb :: (Value.slice ra rn rc).ownBlock.toList) := fun k cs t hc h1 h2 hx => by
    rcases List.mem_cons.1 hx with e | hx
    · exact heap_ne hc hbb h1 e
    · have hx' : (Value.slice ra rn rc).ownBlock = some k := by simpa using hx
      obtain ⟨cs', hc'⟩ := own_tag hor hx'
      have hc4 := (HK5.out.block k (HL.out k hx') (by simp)).trans hc'
      exact heap_ne hc hc4 h2 rfl
  have hTx := HT5.out.of_block (hkx.block tb (by omega) (htag tb _ _ htt (by decide) (by decide)))
  have hPx := HP5.out.kp hkx (fun h => by have := hD _ h; omega) (fun h => by have := hD _ h; omega) (fun h => by have := hD _ h; omega)
  have hix := HI5.out.of_block (hkx.block gb HI5.out.lt (fun h => by have := hD _ h; omega))
  have hSx : w.heap.size + 1 + 1 + 1 ≤ wx.heap.size := Nat.le_trans hS5 hkx.size
  have hKx : Kp (bb :: (Value.slice ra rn rc).ownBlock.toList) w wx := (HK5.out.mono (by simp)).trans hkx
  have hgn : g ∉ (bb :: (Value.slice ra rn rc).ownBlock.toList) := fun hx => by
    rcases List.mem_cons.1 hx with e | hx
    · obtain ⟨cs, hc⟩ := hgb'
      exact heap_ne ((HK5.out.block g (lt_of_heap hc) (by simp)).trans hc) hbb (by decide) e
    · exact hgr g (by simpa using hx) rfl
  have howx : wx.ownsRow base 60 6 (.slice (some ⟨g, 0, none⟩) len cap) len (entCells es) := own_block_of how (fun k hk => by
    obtain rfl : g = k := by simpa [Value.ownBlock] using hk
    exact hKx.block g (low_of how g hk) hgn)
  have hidx : ∀ e ∈ es, IdAt wx e.blk e.cap e.key := fun e he => (HI.out e he).of_block (hKx.block _ (HI.out e he).lt (by
    obtain ⟨cs, hc, _⟩ := (HI.out e he).at_
    exact htag _ cs 5 ((HK5.out.block _ (HI.out e he).lt (by simp)).trans hc) (by decide) (by decide)))
  have HG := hide (low_of how g rfl)
  have hl3' : ∀ k, v'.ownBlock = some k → k ∈ (bb :: (Value.slice ra rn rc).ownBlock.toList) ∨ w.heap.size ≤ k := fun k hk => by
    rcases hl3 with e | ⟨k', e, h⟩
    · exact .inl (List.mem_cons_of_mem _ (by rw [← e, hk]; simp))
    · right
      rw [hk] at e
      have : k = k' := by simpa using e
      omega
  clear hkx ho3 hg3 hwx h7 h8 h9 HP5 HK5 HT5 HB5 HI5 hl3 hor how hbb u1 u2 u3 htt hgb' htag hgn
  obtain ⟨g', c', rfl⟩ := own_some hox (by omega)
  obtain ⟨bs, hbb, u1, u2, u3⟩ := hBx.at_
  have b10 := (cell_of_heap hbb 10).trans u3
  have bf10 := free_of_heap hbb 10
  by_cases hov : R < (rn : Int) + 1
  · have hov' : R < ((rn + 1 : Nat) : Int) := by omega
    have hkg : g' ≠ bb := by
      obtain ⟨cs, hc⟩ := own_heap hox
      exact heap_ne hc hbb (by decide)
    have DEL := hide (delete_first g' rn c' base2 (er ++ [⟨gb, gcap, key, xclk, s, n⟩]) wx (by simp [hrl]) (by omega) hox)
    have hgg : g ≠ g' := fun e => by
      rcases hl3' g' rfl with h | h
      · rcases List.mem_cons.1 h with h | h
        · exact hkg h
        · exact hgr g' (by simpa using h) e.symm
      · obtain ⟨cs, hc⟩ := own_heap howx
        have := HG.out
        omega
    obtain ⟨gcs, hgcs⟩ := own_heap hox
    obtain ⟨tcs, htcs⟩ := hTx.tag
    have HXX := hide (And.intro hBx (And.intro howx (And.intro hidx (And.intro hTx (And.intro hPx (And.intro hix (And.intro hKx hl3')))))))
    clear hBx hox howx hidx hTx hPx hix hKx hl3'
    go_upto_region 33 with fail
    refine DEL.out.mono ?_
    rintro e Y ⟨rfl, hoY, hkY⟩
    obtain ⟨hBx, howx, hidx, hTx, hPx, hix, hKx, hl3'⟩ := HXX.out
    have ntb : tb ≠ g' := heap_ne htcs hgcs (by decide)
    have hBY := hBx.of_block (hkY.block bb hBx.lt (by simpa using hkg.symm))
    have hTY := hTx.of_block (hkY.block tb hTx.lt (by simpa using ntb))
    have hPY := hPx.kp hkY (by simpa using heap_ne hPx.pc hgcs (by decide)) (by simpa using heap_ne hPx.pt hgcs (by decide)) (by simpa using heap_ne hPx.po hgcs (by decide))
    have hiY := hix.of_block (hkY.block gb hix.lt (by simpa using hix.ne hgcs (by decide)))
    have howY : Y.ownsRow base 60 6 (.slice (some ⟨g, 0, none⟩) len cap) len (entCells es) := own_block_of howx (fun k hk => by
      obtain rfl : g = k := by simpa [Value.ownBlock] using hk
      exact hkY.block g (low_of howx g hk) (by simpa using hgg))
    have hidY : ∀ e ∈ es, IdAt Y e.blk e.cap e.key := fun e he => (hidx e he).of_block (hkY.block _ (hidx e he).lt (by simpa using (hidx e he).ne hgcs (by decide)))
    have hKY : Kp (bb :: (Value.slice ra rn rc).ownBlock.toList) w Y := hKx.then hkY (fun x hx => by
      obtain rfl : x = g' := by simpa using hx
      exact hl3' x rfl)
    have bY := (World.cell?_of_block (w := wx) (a := ⟨bb, 10, none⟩) (hkY.block bb hBx.lt (by simpa using hkg.symm))).trans b10
    have bfY := (World.frozen?_of_block (w := wx) (a := ⟨bb, 10, none⟩) (hkY.block bb hBx.lt (by simpa using hkg.symm))).trans bf10
    -- behind the store of the row
    have hkZ : Kp [bb] Y (Y.setCell ⟨bb, 10, none⟩ (.slice (some ⟨g', 0, none⟩) rn c')) := (Kp.refl _ _).setCell (by simp) _
    obtain ⟨bcs, hbcs⟩ := hBY.tag
    have hBz := hBY.repl (.slice (some ⟨g', 0, none⟩) rn c')
    have hTz := hTY.of_block (hkZ.block tb hTY.lt (by obtain ⟨cs, h⟩ := hTY.tag; simpa using heap_ne h hbcs (by decide)))
    have hPz := hPY.kp hkZ (by simpa using heap_ne hPY.pc hbcs (by decide)) (by simpa using heap_ne hPY.pt hbcs (by decide)) (by simpa using heap_ne hPY.po hbcs (by decide))
    have hiz := hiY.of_block (hkZ.block gb hiY.lt (by simpa using hiY.ne hbcs (by decide)))
    have howz : (Y.setCell ⟨bb, 10, none⟩ (.slice (some ⟨g', 0, none⟩) rn c')).ownsRow base 60 6 (.slice (some ⟨g, 0, none⟩) len cap) len (entCells es) := own_block_of howY (fun k hk => by
      obtain ⟨cs, hc⟩ := own_tag howY hk
      exact hkZ.block k (lt_of_heap hc) (by simpa using heap_ne hc hbcs (by decide)))
    have hoz : (Y.setCell ⟨bb, 10, none⟩ (.slice (some ⟨g', 0, none⟩) rn c')).ownsRow base2 60 6 (.slice (some ⟨g', 0, none⟩) rn c') rn (entCells ((er ++ [(⟨gb, gcap, key, xclk, s, n⟩ : Ent)]).drop 1)) := own_block_of hoY (fun k hk => by
      obtain ⟨cs, hc⟩ := own_tag hoY hk
      exact hkZ.block k (lt_of_heap hc) (by simpa using heap_ne hc hbcs (by decide)))
    have hidz : ∀ e ∈ es, IdAt (Y.setCell ⟨bb, 10, none⟩ (.slice (some ⟨g', 0, none⟩) rn c')) e.blk e.cap e.key := fun e he => (hidY e he).of_block (hkZ.block _ (hidY e he).lt (by simpa using (hidY e he).ne hbcs (by decide)))
    have hKz : Kp (bb :: (Value.slice ra rn rc).ownBlock.toList) w (Y.setCell ⟨bb, 10, none⟩ (.slice (some ⟨g', 0, none⟩) rn c')) := hKY.setCell (by simp) _
    clear hBx howx hidx hTx hPx hix hKx hl3' hBY hTY hPY hiY howY hidY hKY hoY hkY HXX DEL hkZ hbcs hgcs htcs b10 bf10 hbb u1 u2 u3
    go_upto_region 33 with fail
    generalize Y.setCell ⟨bb, 10, none⟩ (.slice (some ⟨g', 0, none⟩) rn c') = Z at hBz hTz hPz hiz howz hoz hidz hKz ⊢
    have HZ := hide (And.intro hBz (And.intro hoz hiz))
    clear hoz hiz
    have RC := hide (refusal_any ping pb tb bb K p R _ cnt chg g len cap base _ es Z hTz hBz hel (by omega) hp howz hidz)
    go_wp2_with fail
    refine RC.out.mono ?_
    rintro e Z1 ⟨ov, rfl, hov, hbz⟩
    have hP9 := hPz.kp (Kp.nil.2 hbz) (by simp) (by simp) (by simp)
    have hid9 : ∀ e ∈ es, IdAt Z1 e.blk e.cap e.key := fun e he => (hidz e he).of_block (hbz.block _ (hidz e he).lt)
    have y := cell_of_heap hP9.po
    have yf := free_of_heap hP9.po
    simp at y
    obtain ⟨oa, om, oc, rfl⟩ := hov.shape
    obtain ⟨f8, hkE, hoE⟩ := out_end hP9 hov hid9
    have hKE := (hKz.ofBelow hbz).then hkE (by simp; omega)
    have hZE := ((Kp.nil.2 hbz).mono (D' := [w.heap.size + 1 + 1]) (by simp)).trans hkE
    simp only [World.setCells, Nat.zero_add, Nat.reduceAdd, out9] at f8 hoE hKE hZE
    have HF := hide f8
    have HE := hide (And.intro hoE (And.intro hKE hZE))
    clear f8 hoE hKE hkE hZE hP9 hov hid9 RC hTz howz hidz hKz
    unfold outOld
    go_wp2
    refine bodyPost_ret (v := .tuple #[outOld (.slice oa om oc), .nilIface]) (by have f8 := unhide HF; simp [results, Ybad.results10, go_sem, outOld, f8]) rfl ?_
    obtain ⟨hoE, hKE, hZE⟩ := HE.out
    obtain ⟨hBz, hoz, hiz⟩ := HZ.out
    unfold MissPost
    refine ⟨_, gb, gcap, _, rfl, hoE, by omega, hiz.of_block (hZE.block _ hiz.lt (by simpa using hiz.ne hPz.po (by decide))), hBz.of_block (hZE.block _ hBz.lt (by simp; omega)), ⟨fun _ => own_block_of hoz (fun k hk => ?_), fun h => absurd hov h⟩, hKE⟩
    obtain ⟨cs', hc⟩ := own_tag hoz hk
    exact hZE.block k (lt_of_heap hc) (by simpa using heap_ne hc hPz.po (by decide))
  · have hov' : ¬ R < ((rn + 1 : Nat) : Int) := by omega
    have hTz := hTx
    have hBz := hBx
    have howz := howx
    have hidz := hidx
    have hPz := hPx
    have hKz := hKx
    have HZ := hide (And.intro hBx (And.intro hox hix))
    clear hTx hBx howx hidx hPx hKx hox hix hbb u1 u2 u3
    go_upto_region 33 with fail
    have RC := hide (refusal_any ping pb tb bb K p R _ cnt chg g len cap base _ es wx hTz hBz hel (by omega) hp howz hidz)
    go_wp2_with fail
    refine RC.out.mono ?_
    rintro e Z1 ⟨ov, rfl, hov, hbz⟩
    have hP9 := hPz.kp (Kp.nil.2 hbz) (by simp) (by simp) (by simp)
    have hid9 : ∀ e ∈ es, IdAt Z1 e.blk e.cap e.key := fun e he => (hidz e he).of_block (hbz.block _ (hidz e he).lt)
    have y := cell_of_heap hP9.po
    have yf := free_of_heap hP9.po
    simp at y
    obtain ⟨oa, om, oc, rfl⟩ := hov.shape
    obtain ⟨f8, hkE, hoE⟩ := out_end hP9 hov hid9
    have hKE := (hKz.ofBelow hbz).then hkE (by simp; omega)
    have hZE := ((Kp.nil.2 hbz).mono (D' := [w.heap.size + 1 + 1]) (by simp)).trans hkE
    simp only [World.setCells, Nat.zero_add, Nat.reduceAdd, out9] at f8 hoE hKE hZE
    have HF := hide f8
    have HE := hide (And.intro hoE (And.intro hKE hZE))
    clear f8 hoE hKE hkE hZE hP9 hov hid9 RC hTz howz hidz hKz
    unfold outOld
    go_wp2
    refine bodyPost_ret (v := .tuple #[outOld (.slice oa om oc), .nilIface]) (by have f8 := unhide HF; simp [results, Ybad.results10, go_sem, outOld, f8]) rfl ?_
    obtain ⟨hoE, hKE, hZE⟩ := HE.out
    obtain ⟨hBz, hoz, hiz⟩ := HZ.out
    unfold MissPost
    refine ⟨_, gb, gcap, _, rfl, hoE, by omega, hiz.of_block (hZE.block _ hiz.lt (by simpa using hiz.ne hPz.po (by decide))), hBz.of_block (hZE.block _ hBz.lt (by simp; omega)), ⟨fun h => absurd h (by omega), fun _ => own_block_of hoz (fun k hk => ?_)⟩, hKE⟩
    obtain ⟨cs', hc⟩ := own_tag hoz hk
    exact hZE.block k (lt_of_heap hc) (by simpa using heap_ne hc hPz.po (by decide))

end Go.Proofs.YbulkagdqDoor

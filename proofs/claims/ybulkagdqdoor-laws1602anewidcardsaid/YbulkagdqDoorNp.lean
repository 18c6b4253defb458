import Derived.Test.YbulkagdqDoorNo
namespace Go.Proofs.YbulkagdqDoor
open Go.RowKit
set_option linter.unusedVariables false
set_option maxRecDepth 100000

def Hit1Post (w : World) (cb go gc bb : Nat) (q : Int) (er : List Ent) (j : Nat) (hj : j < er.length) (xb xc key : Nat) (xclk aClk s n : Int) (ping : Bool) (p len : Nat) (es : List Ent) (g cap g2 rn base2 : Nat) (chg : Int) (e : Ending) (w' : World) : Prop :=
  ∃ ov v', e = .returned (.tuple #[outOld ov, .nilIface]) ∧ OldAt w' ping (min p len) es ov ∧ ArbOut w' cb go gc (q + 1) er[j].blk er[j].cap er[j].clk xb xc xclk ∧ BukAt w' bb chg (.slice (some ⟨g, 0, none⟩) len cap) v' ∧ w'.ownsRow base2 60 6 v' rn (entCells (er.take j ++ er.drop (j + 1) ++ [⟨er[j].blk, er[j].cap, key, aClk, s, n⟩])) ∧ Kp [cb, go, gc, bb, g2] w w'

set_option maxHeartbeats 4000000 in
theorem placeHit1 (tb bb : Nat) (K : Int) (p : Nat) (R : Int) (cnt chg : Int) (ping : Bool) (pb : Nat) (xb xc key : Nat) (xclk s n : Int) (g len cap base : Nat) (es : List Ent) (w : World) (cb go gc mb kb ab : Nat) (q aClk : Int) (g2 rn rc base2 j : Nat) (er : List Ent)
    (hT : TabAt w tb K (p : Int) R (arbV 16 cb go gc mb kb ab) (onpV ping pb) cnt) (hA : ArbIn w cb go gc mb kb ab q 1 key aClk) (hq0 : 0 ≤ q) (hq1 : q ≤ 100) (hB : BukAt w bb chg (.slice (some ⟨g, 0, none⟩) len cap) (.slice (some ⟨g2, 0, none⟩) rn rc)) (how : w.ownsRow base 60 6 (.slice (some ⟨g, 0, none⟩) len cap) len (entCells es)) (hids : ∀ e ∈ es, IdAt w e.blk e.cap e.key) (hel : es.length = len) (hlK : ¬ (len : Int) < K) (hl : len ≤ 1000) (hp : p ≤ 100) (hid : IdAt w xb xc key) (hR : 0 < R) (hor : w.ownsRow base2 60 6 (.slice (some ⟨g2, 0, none⟩) rn rc) rn (entCells er)) (hrid : ∀ e ∈ er, IdAt w e.blk e.cap e.key) (hrl : er.length = rn) (hrn : rn ≤ 100) (hb2 : base2 ≤ w.heap.size) (hkey : key < 256) (hek : ∀ e ∈ er, e.key < 256) (hj : j < er.length) (hjk : er[j].key = key) (huq : ∀ t (h : t < er.length), er[t].key = key → t = j) (hgr : g2 ≠ g) (hrR : (rn : Int) ≤ R) :
    Calls Ybad.prog 10 #[.pointer (some ⟨tb, 0, none⟩), .pointer (some ⟨bb, 0, none⟩), .int .i64 (-1), conV xb xc xclk, tmV s n] w (Hit1Post w cb go gc bb q er j hj xb xc key xclk aClk s n ping p len es g cap g2 rn base2 chg) := by
  obtain ⟨z0, z1, z2, hb0, hS1⟩ := place_three w (.cells #[.slice (some ⟨xb, 0, none⟩) 1 xc, .int .u64 xclk, .nilIface] 58) (.cells #[.int .u64 n, .int .i64 s, .pointer none] 28) (.cells #[.slice none 0 0, .int .u64 0, .nilIface, .bool false, .bool false, .slice none 0 0, .int .u64 0, .nilIface, .slice none 0 0] 75)
  have ltb := hT.lt
  have lbb := hB.lt
  go_enter Ybad.func10, Ybad.ntmps10
  unfold conV tmV
  go_upto_region 12 with fail
  generalize ((w.alloc (.cells #[.slice (some ⟨xb, 0, none⟩) 1 xc, .int .u64 xclk, .nilIface] 58)).alloc (.cells #[.int .u64 n, .int .i64 s, .pointer none] 28)).alloc (.cells #[.slice none 0 0, .int .u64 0, .nilIface, .bool false, .bool false, .slice none 0 0, .int .u64 0, .nilIface, .slice none 0 0] 75) = X1 at z0 z1 z2 hb0 hS1 ⊢
  have hT1 := hT.of_block (hb0.block _ ltb)
  have hB1 := hB.of_block (hb0.block _ lbb)
  obtain ⟨cs, ht, t1, t2, t3, t4, t5, t6⟩ := hT1.at_
  obtain ⟨bs, hbb, u1, u2, u3⟩ := hB1.at_
  have cK := (cell_of_heap ht 1).trans t1
  have c9 := (cell_of_heap hbb 9).trans u2
  go_quiet (fail)
  have hK2 : Kp [] w (X1.drewN nq) := (Kp.nil.2 hb0).drewN nq
  have hP2 : PlAt (X1.drewN nq) w.heap.size xb xc xclk s n := ⟨z0, z1, z2⟩
  have hT2 := hT1.of_block (w' := X1.drewN nq) rfl
  have hB2 := hB1.of_block (w' := X1.drewN nq) rfl
  have hS2 : (X1.drewN nq).heap.size = w.heap.size + 1 + 1 + 1 := hS1
  have cR : (X1.drewN nq).cell? ⟨tb, 4, none⟩ = some (.int .i64 R) := (cell_of_heap ht 4).trans t3
  clear hT1 hB1 ht t1 t2 t3 t4 t5 t6 hbb u1 u2 u3 cK c9 z0 z1 z2 hb0 hS1
  go_upto_region 17 with fail
  generalize X1.drewN nq = X2 at hK2 hP2 hT2 hB2 hS2 cR ⊢
  have hRp : (0 : Int) < R := hR
  obtain ⟨bs, hbb, u1, u2, u3⟩ := hB2.at_
  have hi2 := hid.of_block (hK2.block _ hid.lt (by simp))
  have hor2 : X2.ownsRow base2 60 6 (.slice (some ⟨g2, 0, none⟩) rn rc) rn (entCells er) := own_block_of hor (fun k hk => hK2.block k (low_of hor k hk) (by simp))
  have hrid2 : ∀ e ∈ er, IdAt X2 e.blk e.cap e.key := fun e he => (hrid e he).of_block (hK2.block _ (hrid e he).lt (by simp))
  have HH := hide (And.intro hor2 hrid2)
  have HX := hide hek
  have HU := hide (And.intro hjk huq)
  have HI := hide hids
  have HR2 := hide hrid
  clear hids hrid hjk huq hek
  go_upto_region 19 with fail
  refine index19 (key := key) (es := er) ((cell_of_heap hbb 10).trans u3) hP2.pc hrl (by omega) hkey HX.out (ents_any HH.out.1 HH.out.2) hi2.cell ?_
  intro t120 t121 t122 t123 t124 t125 t126 r X3 hx hb3
  obtain rfl : r = (j : Int) := by
    rcases hx with ⟨_, h⟩ | ⟨i, hi, h1, h2, _⟩
    · exact absurd HU.out.1 (h j hj)
    · rw [h1, HU.out.2 i hi h2]
  have k23 := Kp.nil.2 hb3
  have hP3 := hP2.kp k23 (by simp) (by simp) (by simp)
  have hK3 := hK2.trans k23
  have hT3 := hT2.of_block (hb3.block tb (by omega))
  have hB3 := hB2.of_block (hb3.block bb (by omega))
  have hi3 := hi2.of_block (hb3.block _ hi2.lt)
  have hor3 : X3.ownsRow base2 60 6 (.slice (some ⟨g2, 0, none⟩) rn rc) rn (entCells er) := own_block_of HH.out.1 (fun k hk => hb3.block k (low_of HH.out.1 k hk))
  have hA3 : ArbIn X3 cb go gc mb kb ab q 1 key aClk := hA.of_heap (fun k hk => hK3.block k hk (by simp))
  have hS3 := hb3.size
  have hrid3 : ∀ e ∈ er, IdAt X3 e.blk e.cap e.key := fun e he => (HH.out.2 e he).of_block (hb3.block _ (HH.out.2 e he).lt)
  clear hP2 hK2 hT2 hB2 hi2 hor2 hrid2 HH hbb u1 u2 u3 hx hb3 k23 cR
  obtain ⟨bs, hbb, u1, u2, u3⟩ := hB3.at_
  obtain ⟨gs, hgs⟩ := own_heap hor3
  have hea := entAt_own (R := []) (by rw [List.append_nil]; exact hor3) j hj
  obtain ⟨ej, hee⟩ : ∃ e, er[j] = e := ⟨_, rfl⟩
  have HEJ := hide hee
  have hej := hrid3 er[j] (List.getElem_mem hj)
  rw [hee] at hea hej
  have hkj : ej.key = key := by rw [← HEJ.out]; exact HU.out.1
  obtain ⟨lcb, lgo, lgc⟩ := hA.lts
  have nbb := hA3.apart hbb (by decide) (by decide)
  have ngs := hA3.apart hgs (by decide) (by decide)
  have hj0 : j < rn := by omega
  have hji : ¬ (j : Int) < 0 := by omega
  have hji' : (0 : Int) ≤ (j : Int) := by omega
  go_upto_region 21 with fail
  refine settle21 (ok := true) (cb := cb) (go := go) (gc := gc) (S := fun w' sa sl sc sk err => sa = some ⟨ej.blk, 0, none⟩ ∧ sl = 1 ∧ sc = ej.cap ∧ sk = aClk ∧ err = .nilIface ∧ ArbOut w' cb go gc (q + 1) ej.blk ej.cap ej.clk xb xc xclk) ((cell_of_heap hbb 10).trans u3) hP3.pc hj0 hea.c0 hea.c1 hea.c2 nbb (by omega) ngs (by omega) ?hS ?hSt ?hK
  case hS =>
    intro X' hX'
    have hej' : IdAt X' ej.blk ej.cap key := by rw [← hkj]; exact hej.of_block (hX'.block _ hej.lt (by simp))
    refine (settle16_1 tb K p R _ cnt cb go gc mb kb ab q key aClk ej.blk ej.cap xb xc ej.clk xclk X' (hT3.of_block (hX'.block tb hT3.lt (by simp))) (hA3.of_heap (fun k hk => hX'.block k hk (by simp))) hq0 hq1 hej' hkey).mono fun e w' ⟨h1, h6, h7⟩ => ?_
    exact ⟨_, _, _, _, _, h1, ⟨rfl, rfl, rfl, rfl, rfl, h6⟩, h7⟩
  case hSt =>
    intro w1 w2 z sa sl sc sk err hS hz hzz hk
    have hzn : cb ≠ z ∧ go ≠ z ∧ gc ≠ z := by omega
    exact ⟨hS.1, hS.2.1, hS.2.2.1, hS.2.2.2.1, hS.2.2.2.2.1, hS.2.2.2.2.2.low hzn hk⟩
  case hK =>
  intro t129 t130 t131 t132 t133 t134 t135 t136 t137 t138 t139 t140 t141 t142 t143 zb sa sl sc sk err Y hSY hzb hzz hkY
  have hPY := hP3.kp hkY (not3 (by omega)) (not3 (by omega)) (not3 (by omega))
  have hKY : Kp [cb, go, gc] w Y := (hK3.mono (by simp)).trans hkY
  have hBY := hB3.of_block (hkY.block bb hB3.lt (not3 nbb))
  have hTY := hT3.of_block (hkY.block tb hT3.lt (not3 (by obtain ⟨cs, h⟩ := hT3.tag; exact hA3.apart h (by decide) (by decide))))
  have hoY : Y.ownsRow base2 60 6 (.slice (some ⟨g2, 0, none⟩) rn rc) rn (entCells er) := own_block_of hor3 (fun k hk => by
    obtain ⟨cs, h⟩ := own_tag hor3 hk
    exact hkY.block k (lt_of_heap h) (not3 (hA3.apart h (by decide) (by decide))))
  have howY : Y.ownsRow base 60 6 (.slice (some ⟨g, 0, none⟩) len cap) len (entCells es) := own_block_of how (fun k hk => by
    obtain ⟨cs, h⟩ := own_tag how hk
    have h' := (hK3.block k (lt_of_heap h) (by simp)).trans h
    exact (hkY.block k (lt_of_heap h') (not3 (hA3.apart h' (by decide) (by decide)))).trans (hK3.block k (lt_of_heap h) (by simp)))
  have idY : ∀ b c kk, IdAt w b c kk → IdAt Y b c kk := fun b c kk h => by
    obtain ⟨cs, hc, _⟩ := h.at_
    have h' := (hK3.block b (lt_of_heap hc) (by simp)).trans hc
    exact (h.of_block (hK3.block b (lt_of_heap hc) (by simp))).of_block (hkY.block b (lt_of_heap h') (not3 (hA3.apart h' (by decide) (by decide))))
  have hSz : w.heap.size + 1 + 1 + 1 ≤ Y.heap.size := by have := hkY.size; omega
  clear hP3 hK3 hT3 hB3 hi3 hor3 hA3 hrid3 hbb u1 u2 u3 hgs hea hej nbb ngs hkY
  obtain ⟨rfl, rfl, rfl, rfl, rfl, sO⟩ := hSY
  have hidY : ∀ e ∈ es, IdAt Y e.blk e.cap e.key := fun e he => idY _ _ _ (HI.out e he)
  have hijY : IdAt Y ej.blk ej.cap ej.key := by
    have := HR2.out er[j] (List.getElem_mem hj)
    rw [HEJ.out] at this
    exact idY _ _ _ this
  have q0 : Y.cell? ⟨zb, 0, none⟩ = some (.slice (some ⟨ej.blk, 0, none⟩) 1 ej.cap) := (cell_of_heap hzz 0).trans rfl
  have q1 : Y.cell? ⟨zb, 1, none⟩ = some (.int .u64 sk) := (cell_of_heap hzz 1).trans rfl
  have q2 : Y.cell? ⟨zb, 2, none⟩ = some .nilIface := (cell_of_heap hzz 2).trans rfl
  have p0 : Y.cell? ⟨w.heap.size, 0, none⟩ = some (.slice (some ⟨xb, 0, none⟩) 1 xc) := (cell_of_heap hPY.pc 0).trans rfl
  have p1 : Y.cell? ⟨w.heap.size, 1, none⟩ = some (.int .u64 xclk) := (cell_of_heap hPY.pc 1).trans rfl
  have p2 : Y.cell? ⟨w.heap.size, 2, none⟩ = some .nilIface := (cell_of_heap hPY.pc 2).trans rfl
  have pf := free_of_heap hPY.pc
  clear idY hzz
  -- behind the contact's store
  have hk1 : Kp [w.heap.size] Y (((Y.setCell ⟨w.heap.size, 0, none⟩ (.slice (some ⟨ej.blk, 0, none⟩) 1 ej.cap)).setCell ⟨w.heap.size, 1, none⟩ (.int .u64 sk)).setCell ⟨w.heap.size, 2, none⟩ .nilIface) := (((Kp.refl _ _).setCell (by simp) _).setCell (by simp) _).setCell (by simp) _
  have hP1 : PlAt (((Y.setCell ⟨w.heap.size, 0, none⟩ (.slice (some ⟨ej.blk, 0, none⟩) 1 ej.cap)).setCell ⟨w.heap.size, 1, none⟩ (.int .u64 sk)).setCell ⟨w.heap.size, 2, none⟩ .nilIface) w.heap.size ej.blk ej.cap sk s n := ⟨heap_set3 hPY.pc _ _ _, (hk1.block _ (lt_of_heap hPY.pt) (by simp)).trans hPY.pt, (hk1.block _ (lt_of_heap hPY.po) (by simp; omega)).trans hPY.po⟩
  have nbs : bb ∉ [w.heap.size] := by simp; omega
  have ntb : tb ∉ [w.heap.size] := by simp; omega
  have hB1 := hBY.of_block (hk1.block bb hBY.lt nbs)
  have hT1 := hTY.of_block (hk1.block tb hTY.lt ntb)
  have ho1 := own_block_of hoY (w' := ((Y.setCell ⟨w.heap.size, 0, none⟩ (.slice (some ⟨ej.blk, 0, none⟩) 1 ej.cap)).setCell ⟨w.heap.size, 1, none⟩ (.int .u64 sk)).setCell ⟨w.heap.size, 2, none⟩ .nilIface) (fun k hk => by
    obtain ⟨cs, h⟩ := own_tag hoY hk
    exact hk1.block k (lt_of_heap h) (by simpa using heap_ne h hPY.pc (by decide)))
  have how1 := own_block_of howY (w' := ((Y.setCell ⟨w.heap.size, 0, none⟩ (.slice (some ⟨ej.blk, 0, none⟩) 1 ej.cap)).setCell ⟨w.heap.size, 1, none⟩ (.int .u64 sk)).setCell ⟨w.heap.size, 2, none⟩ .nilIface) (fun k hk => by
    obtain ⟨cs, h⟩ := own_tag howY hk
    exact hk1.block k (lt_of_heap h) (by simpa using heap_ne h hPY.pc (by decide)))
  have hid1 : ∀ b c kk, IdAt Y b c kk → IdAt (((Y.setCell ⟨w.heap.size, 0, none⟩ (.slice (some ⟨ej.blk, 0, none⟩) 1 ej.cap)).setCell ⟨w.heap.size, 1, none⟩ (.int .u64 sk)).setCell ⟨w.heap.size, 2, none⟩ .nilIface) b c kk := fun b c kk h => h.of_block (hk1.block b h.lt (by simpa using h.ne hPY.pc (by decide)))
  have sO1 := sO.low (by omega) hk1
  have hK1 : Kp [cb, go, gc] w (((Y.setCell ⟨w.heap.size, 0, none⟩ (.slice (some ⟨ej.blk, 0, none⟩) 1 ej.cap)).setCell ⟨w.heap.size, 1, none⟩ (.int .u64 sk)).setCell ⟨w.heap.size, 2, none⟩ .nilIface) := ((hKY.setNew (Nat.le_refl _) _).setNew (Nat.le_refl _) _).setNew (Nat.le_refl _) _
  have hS1 : w.heap.size + 1 + 1 + 1 ≤ (((Y.setCell ⟨w.heap.size, 0, none⟩ (.slice (some ⟨ej.blk, 0, none⟩) 1 ej.cap)).setCell ⟨w.heap.size, 1, none⟩ (.int .u64 sk)).setCell ⟨w.heap.size, 2, none⟩ .nilIface).heap.size := Nat.le_trans hSz hk1.size
  have hidA : ∀ e ∈ es, IdAt (((Y.setCell ⟨w.heap.size, 0, none⟩ (.slice (some ⟨ej.blk, 0, none⟩) 1 ej.cap)).setCell ⟨w.heap.size, 1, none⟩ (.int .u64 sk)).setCell ⟨w.heap.size, 2, none⟩ .nilIface) e.blk e.cap e.key := fun e he => hid1 _ _ _ (hidY e he)
  clear hPY hKY hBY hTY hoY howY hidY hijY sO hid1
  go_upto_region 28 with fail
  generalize ((Y.setCell ⟨w.heap.size, 0, none⟩ (.slice (some ⟨ej.blk, 0, none⟩) 1 ej.cap)).setCell ⟨w.heap.size, 1, none⟩ (.int .u64 sk)).setCell ⟨w.heap.size, 2, none⟩ .nilIface = Y1 at hP1 hB1 hT1 ho1 how1 hidA sO1 hK1 hS1 hk1 ⊢
  clear hk1 q0 q1 q2 p0 p1 p2 pf
  -- the deletion
  obtain ⟨bs, hbb, u1, u2, u3⟩ := hB1.at_
  obtain ⟨gs, hgs⟩ := own_heap ho1
  have b10 := (cell_of_heap hbb 10).trans u3
  have bf10 := free_of_heap hbb 10
  have DEL := hide (delete_any g2 rn rc j base2 ((j : Int) + 1) er Y1 rfl hrl (by omega) (by omega) ho1)
  go_upto_region 30 with fail
  refine DEL.out.mono ?_
  rintro e Y2 ⟨rfl, ho2, hk2⟩
  have hkg : bb ≠ g2 := heap_ne hbb hgs (by decide)
  have hB2 := hB1.of_block (hk2.block bb hB1.lt (by simpa using hkg))
  have hT2 := hT1.of_block (hk2.block tb hT1.lt (by obtain ⟨cs, h⟩ := hT1.tag; simpa using heap_ne h hgs (by decide)))
  have hP2 := hP1.kp hk2 (by simpa using heap_ne hP1.pc hgs (by decide)) (by simpa using heap_ne hP1.pt hgs (by decide)) (by simpa using heap_ne hP1.po hgs (by decide))
  have how2 : Y2.ownsRow base 60 6 (.slice (some ⟨g, 0, none⟩) len cap) len (entCells es) := own_block_of how1 (fun k hk => by
    obtain rfl : g = k := by simpa [Value.ownBlock] using hk
    exact hk2.block g (low_of how1 g hk) (by simpa using hgr.symm))
  have hid2 : ∀ e ∈ es, IdAt Y2 e.blk e.cap e.key := fun e he => (hidA e he).of_block (hk2.block _ (hidA e he).lt (by simpa using (hidA e he).ne hgs (by decide)))
  have sO2 := sO1.kp hk2 (by simpa using heap_ne sO1.h0 hgs (by decide)) (by simpa using heap_ne sO1.h1 hgs (by decide)) (by simpa using heap_ne sO1.h2 hgs (by decide))
  have hK2' : Kp [cb, go, gc, bb, g2] w Y2 := (hK1.mono (by simp)).trans (hk2.mono (by simp))
  have hS2' := Nat.le_trans hS1 hk2.size
  have b10' := (World.cell?_of_block (w := Y1) (a := ⟨bb, 10, none⟩) (hk2.block bb hB1.lt (by simpa using hkg))).trans b10
  have bf10' := (World.frozen?_of_block (w := Y1) (a := ⟨bb, 10, none⟩) (hk2.block bb hB1.lt (by simpa using hkg))).trans bf10
  -- the row's store
  have hk3 : Kp [bb] Y2 (Y2.setCell ⟨bb, 10, none⟩ (.slice (some ⟨g2, 0, none⟩) (rn - 1) rc)) := (Kp.refl _ _).setCell (by simp) _
  obtain ⟨bcs, hbcs⟩ := hB2.tag
  have hB3 := hB2.repl (.slice (some ⟨g2, 0, none⟩) (rn - 1) rc)
  have hT3 := hT2.of_block (hk3.block tb hT2.lt (by obtain ⟨cs, h⟩ := hT2.tag; simpa using heap_ne h hbcs (by decide)))
  have hP3 := hP2.kp hk3 (by simpa using heap_ne hP2.pc hbcs (by decide)) (by simpa using heap_ne hP2.pt hbcs (by decide)) (by simpa using heap_ne hP2.po hbcs (by decide))
  have ho3 := own_block_of ho2 (w' := Y2.setCell ⟨bb, 10, none⟩ (.slice (some ⟨g2, 0, none⟩) (rn - 1) rc)) (fun k hk => by
    obtain ⟨cs, hc⟩ := own_tag ho2 hk
    exact hk3.block k (lt_of_heap hc) (by simpa using heap_ne hc hbcs (by decide)))
  have how3 := own_block_of how2 (w' := Y2.setCell ⟨bb, 10, none⟩ (.slice (some ⟨g2, 0, none⟩) (rn - 1) rc)) (fun k hk => by
    obtain ⟨cs, hc⟩ := own_tag how2 hk
    exact hk3.block k (lt_of_heap hc) (by simpa using heap_ne hc hbcs (by decide)))
  have hid3 : ∀ e ∈ es, IdAt (Y2.setCell ⟨bb, 10, none⟩ (.slice (some ⟨g2, 0, none⟩) (rn - 1) rc)) e.blk e.cap e.key := fun e he => (hid2 e he).of_block (hk3.block _ (hid2 e he).lt (by simpa using (hid2 e he).ne hbcs (by decide)))
  have sO3 := sO2.kp hk3 (by simpa using heap_ne sO2.h0 hbcs (by decide)) (by simpa using heap_ne sO2.h1 hbcs (by decide)) (by simpa using heap_ne sO2.h2 hbcs (by decide))
  have hK3' : Kp [cb, go, gc, bb, g2] w (Y2.setCell ⟨bb, 10, none⟩ (.slice (some ⟨g2, 0, none⟩) (rn - 1) rc)) := hK2'.setCell (by simp) _
  have hS3' := Nat.le_trans hS2' hk3.size
  clear hB2 hT2 hP2 ho2 how2 hid2 sO2 hK2' hk3 hbcs hB1 hT1 hP1 ho1 how1 hidA sO1 hK1 hk2 DEL hbb u1 u2 u3 hgs b10 bf10
  go_upto_region 30 with fail
  generalize Y2.setCell ⟨bb, 10, none⟩ (.slice (some ⟨g2, 0, none⟩) (rn - 1) rc) = Y3 at hB3 hT3 hP3 ho3 how3 hid3 sO3 hK3' hS3' ⊢
  clear b10' bf10'
  obtain ⟨bs, hbb, u1, u2, u3⟩ := hB3.at_
  obtain ⟨gs, hgs⟩ := own_heap ho3
  have hg2l := lt_of_heap hgs
  have hlen2 : (er.take j ++ er.drop (j + 1)).length = rn - 1 := by simp; omega
  have HY := hide (And.intro hB3 (And.intro hT3 (And.intro hP3 (And.intro how3 (And.intro hid3 (And.intro sO3 hK3'))))))
  have ngw : g2 < w.heap.size := low_of hor g2 rfl
  refine append30 (base := base2) (key := key) (es := er.take j ++ er.drop (j + 1)) ((cell_of_heap hbb 10).trans u3) (free_of_heap hbb 10) hP3.pc hP3.pt ho3 (by omega) (by omega) (fun k hk => by
    obtain rfl : g2 = k := by simpa [Value.ownBlock] using hk
    exact ⟨heap_ne hgs hbb (by decide), by omega, by omega⟩) (lt_of_heap hbb) ?_
  clear hB3 hT3 hP3 how3 hid3 sO3 hK3' u1 u2 u3
  intro t177 t178 t179 t180 t181 t182 t183 t184 t185 t186 t187 t188 v' w3 wx hoa hga hla hwx h7 h8 h9
  obtain ⟨hB3, hT3, hP3, how3, hid3, sO3, hK3'⟩ := HY.out
  obtain ⟨hBx, hox, hkx⟩ := after_app10 hB3 hoa hga (fun k hk => by
    obtain rfl : g2 = k := by simpa [Value.ownBlock] using hk
    exact heap_ne hgs hbb (by decide)) hwx h7 h8 h9
  have hkx : Kp [bb, g2] Y3 wx := by simpa [Value.ownBlock] using hkx
  have htag : ∀ (k : Nat) (cs : Array Value) (t : TypeId), Y3.heap[k]? = some (.cells cs t (0, 0)) → t ≠ 56 → t ≠ 60 → k ∉ [bb, g2] := fun k cs t hc h1 h2 => by simp [heap_ne hc hbb h1, heap_ne hc hgs h2]
  have hTx := hT3.of_block (hkx.block tb hT3.lt (by obtain ⟨cs, h⟩ := hT3.tag; exact htag tb _ _ h (by decide) (by decide)))
  have hPx := hP3.kp hkx (htag _ _ _ hP3.pc (by decide) (by decide)) (htag _ _ _ hP3.pt (by decide) (by decide)) (htag _ _ _ hP3.po (by decide) (by decide))
  have howx : wx.ownsRow base 60 6 (.slice (some ⟨g, 0, none⟩) len cap) len (entCells es) := own_block_of how3 (fun k hk => by
    obtain rfl : g = k := by simpa [Value.ownBlock] using hk
    obtain ⟨cs, hc⟩ := own_heap how3
    exact hkx.block g (lt_of_heap hc) (by simp [heap_ne hc hbb (by decide), hgr.symm]))
  have hidx : ∀ e ∈ es, IdAt wx e.blk e.cap e.key := fun e he => (hid3 e he).of_block (hkx.block _ (hid3 e he).lt (by
    obtain ⟨cs, hc, _⟩ := (hid3 e he).at_
    exact htag _ cs 5 hc (by decide) (by decide)))
  have sOx := sO3.kp hkx (htag _ _ _ sO3.h0 (by decide) (by decide)) (htag _ _ _ sO3.h1 (by decide) (by decide)) (htag _ _ _ sO3.h2 (by decide) (by decide))
  have hKx : Kp [cb, go, gc, bb, g2] w wx := hK3'.trans (hkx.mono (by simp))
  have hSx : w.heap.size + 1 + 1 + 1 ≤ wx.heap.size := Nat.le_trans hS3' hkx.size
  have hrn1 : rn - 1 + 1 = rn := by omega
  rw [hrn1] at hox
  clear hB3 hT3 hP3 how3 hid3 sO3 hK3' hkx hoa hga hla hwx h7 h8 h9 hbb hgs htag HY ho3
  obtain ⟨g', c', rfl⟩ := own_some hox (by omega)
  obtain ⟨bs, hbb, u1, u2, u3⟩ := hBx.at_
  have b10 := (cell_of_heap hbb 10).trans u3
  have hnov : ¬ R < (rn : Int) := by omega
  have hTz := hTx
  have hBz := hBx
  have howz := howx
  have hidz := hidx
  have hPz := hPx
  have hKz := hKx
  have HZ := hide (And.intro hBx (And.intro hox sOx))
  clear hTx hBx howx hidx hPx hKx hox sOx hbb u1 u2 u3
  go_upto_region 33 with fail
  have RC := hide (refusal_any ping pb tb bb K p R _ cnt chg g len cap base _ es wx hTz hBz hel (by omega) hp howz hidz)
  go_wp2_with fail
  refine RC.out.mono ?_
  rintro e Z1 ⟨ov, rfl, hov, hbz⟩
  have hP9 := hPz.kp (Kp.nil.2 hbz) (by simp) (by simp) (by simp)
  have hid9 : ∀ e ∈ es, IdAt Z1 e.blk e.cap e.key := fun e he => (hidz e he).of_block (hbz.block _ (hidz e he).lt)
  have y := cell_of_heap hP9.po
  have yf := free_of_heap hP9.po
  simp at y
  obtain ⟨oa, om, oc, rfl⟩ := hov.shape
  obtain ⟨f8, hkE, hoE⟩ := out_end hP9 hov hid9
  have hKE := (hKz.ofBelow hbz).then hkE (by simp; omega)
  have hZE := ((Kp.nil.2 hbz).mono (D' := [w.heap.size + 1 + 1]) (by simp)).trans hkE
  simp only [World.setCells, Nat.zero_add, Nat.reduceAdd, out9] at f8 hoE hKE hZE
  have HF := hide f8
  have HE := hide (And.intro hoE (And.intro hKE hZE))
  clear f8 hoE hKE hkE hZE hP9 hov hid9 RC hTz howz hidz hKz
  unfold outOld
  go_wp2
  refine bodyPost_ret (v := .tuple #[outOld (.slice oa om oc), .nilIface]) (by have f8 := unhide HF; simp [results, Ybad.results10, go_sem, outOld, f8]) rfl ?_
  obtain ⟨hoE, hKE, hZE⟩ := HE.out
  obtain ⟨hBz, hoz, sOz⟩ := HZ.out
  unfold Hit1Post
  simp only [HEJ.out] at hoz sOz ⊢
  refine ⟨_, _, rfl, hoE, sOz.low (by omega) hZE, hBz.of_block (hZE.block _ hBz.lt (by simp; omega)), own_block_of hoz (fun k hk => ?_), hKE⟩
  obtain ⟨cs', hc⟩ := own_tag hoz hk
  exact hZE.block k (lt_of_heap hc) (by simpa using heap_ne hc hPz.po (by decide))


end Go.Proofs.YbulkagdqDoor

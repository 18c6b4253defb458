import Derived.Test.YbulkagdqDoorNn
namespace Go.Proofs.YbulkagdqDoor
open Go.RowKit
set_option linter.unusedVariables false
set_option maxRecDepth 100000

def Hit0Post (w : World) (cb go gc : Nat) (q : Int) (er : List Ent) (j : Nat) (hj : j < er.length) (xb xc : Nat) (xclk s n : Int) (ping : Bool) (p len : Nat) (es : List Ent) (g2 rn rc base2 : Nat) (e : Ending) (w' : World) : Prop :=
  ∃ ov, e = .returned (.tuple #[outOld ov, .nilIface]) ∧ OldAt w' ping (min p len) es ov ∧ ArbOut w' cb go gc (q + 1) er[j].blk er[j].cap er[j].clk xb xc xclk ∧ w'.ownsRow base2 60 6 (.slice (some ⟨g2, 0, none⟩) rn rc) rn (entCells (er.set j { er[j] with s := s, n := n })) ∧ Kp [cb, go, gc, g2] w w'

set_option maxHeartbeats 4000000 in
theorem placeHit0 (tb bb : Nat) (K : Int) (p : Nat) (R : Int) (cnt chg : Int) (ping : Bool) (pb : Nat) (xb xc key : Nat) (xclk s n : Int) (g len cap base : Nat) (es : List Ent) (w : World) (cb go gc mb kb ab : Nat) (q aClk : Int) (g2 rn rc base2 j : Nat) (er : List Ent)
    (hT : TabAt w tb K (p : Int) R (arbV 16 cb go gc mb kb ab) (onpV ping pb) cnt) (hA : ArbIn w cb go gc mb kb ab q 0 key aClk) (hq0 : 0 ≤ q) (hq1 : q ≤ 100) (hB : BukAt w bb chg (.slice (some ⟨g, 0, none⟩) len cap) (.slice (some ⟨g2, 0, none⟩) rn rc)) (how : w.ownsRow base 60 6 (.slice (some ⟨g, 0, none⟩) len cap) len (entCells es)) (hids : ∀ e ∈ es, IdAt w e.blk e.cap e.key) (hel : es.length = len) (hlK : ¬ (len : Int) < K) (hl : len ≤ 1000) (hp : p ≤ 100) (hid : IdAt w xb xc key) (hR : 0 < R) (hor : w.ownsRow base2 60 6 (.slice (some ⟨g2, 0, none⟩) rn rc) rn (entCells er)) (hrid : ∀ e ∈ er, IdAt w e.blk e.cap e.key) (hrl : er.length = rn) (hrn : rn ≤ 100) (hb2 : base2 ≤ w.heap.size) (hkey : key < 256) (hek : ∀ e ∈ er, e.key < 256) (hj : j < er.length) (hjk : er[j].key = key) (huq : ∀ t (h : t < er.length), er[t].key = key → t = j) (hgr : g2 ≠ g) :
    Calls Ybad.prog 10 #[.pointer (some ⟨tb, 0, none⟩), .pointer (some ⟨bb, 0, none⟩), .int .i64 (-1), conV xb xc xclk, tmV s n] w (Hit0Post w cb go gc q er j hj xb xc xclk s n ping p len es g2 rn rc base2) := by
  obtain ⟨z0, z1, z2, hb0, hS1⟩ := place_three w (.cells #[.slice (some ⟨xb, 0, none⟩) 1 xc, .int .u64 xclk, .nilIface] 58) (.cells #[.int .u64 n, .int .i64 s, .pointer none] 28) (.cells #[.slice none 0 0, .int .u64 0, .nilIface, .bool false, .bool false, .slice none 0 0, .int .u64 0, .nilIface, .slice none 0 0] 75)
  have ltb := hT.lt
  have lbb := hB.lt
  go_enter Ybad.func10, Ybad.ntmps10
  unfold conV tmV
  go_upto_region 12 with fail
  generalize ((w.alloc (.cells #[.slice (some ⟨xb, 0, none⟩) 1 xc, .int .u64 xclk, .nilIface] 58)).alloc (.cells #[.int .u64 n, .int .i64 s, .pointer none] 28)).alloc (.cells #[.slice none 0 0, .int .u64 0, .nilIface, .bool false, .bool false, .slice none 0 0, .int .u64 0, .nilIface, .slice none 0 0] 75) = X1 at z0 z1 z2 hb0 hS1 ⊢
  have hT1 := hT.of_block (hb0.block _ ltb)
  have hB1 := hB.of_block (hb0.block _ lbb)
  obtain ⟨cs, ht, t1, t2, t3, t4, t5, t6⟩ := hT1.at_
  obtain ⟨bs, hbb, u1, u2, u3⟩ := hB1.at_
  have cK := (cell_of_heap ht 1).trans t1
  have c9 := (cell_of_heap hbb 9).trans u2
  go_quiet (fail)
  have hK2 : Kp [] w (X1.drewN nq) := (Kp.nil.2 hb0).drewN nq
  have hP2 : PlAt (X1.drewN nq) w.heap.size xb xc xclk s n := ⟨z0, z1, z2⟩
  have hT2 := hT1.of_block (w' := X1.drewN nq) rfl
  have hB2 := hB1.of_block (w' := X1.drewN nq) rfl
  have hS2 : (X1.drewN nq).heap.size = w.heap.size + 1 + 1 + 1 := hS1
  have cR : (X1.drewN nq).cell? ⟨tb, 4, none⟩ = some (.int .i64 R) := (cell_of_heap ht 4).trans t3
  clear hT1 hB1 ht t1 t2 t3 t4 t5 t6 hbb u1 u2 u3 cK c9 z0 z1 z2 hb0 hS1
  go_upto_region 17 with fail
  generalize X1.drewN nq = X2 at hK2 hP2 hT2 hB2 hS2 cR ⊢
  have hRp : (0 : Int) < R := hR
  obtain ⟨bs, hbb, u1, u2, u3⟩ := hB2.at_
  have hi2 := hid.of_block (hK2.block _ hid.lt (by simp))
  have hor2 : X2.ownsRow base2 60 6 (.slice (some ⟨g2, 0, none⟩) rn rc) rn (entCells er) := own_block_of hor (fun k hk => hK2.block k (low_of hor k hk) (by simp))
  have hrid2 : ∀ e ∈ er, IdAt X2 e.blk e.cap e.key := fun e he => (hrid e he).of_block (hK2.block _ (hrid e he).lt (by simp))
  have HH := hide (And.intro hor2 hrid2)
  have HX := hide hek
  have HU := hide (And.intro hjk huq)
  have HI := hide hids
  have HR2 := hide hrid
  clear hids hrid hjk huq hek
  go_upto_region 19 with fail
  refine index19 (key := key) (es := er) ((cell_of_heap hbb 10).trans u3) hP2.pc hrl (by omega) hkey HX.out (ents_any HH.out.1 HH.out.2) hi2.cell ?_
  intro t120 t121 t122 t123 t124 t125 t126 r X3 hx hb3
  obtain rfl : r = (j : Int) := by
    rcases hx with ⟨_, h⟩ | ⟨i, hi, h1, h2, _⟩
    · exact absurd HU.out.1 (h j hj)
    · rw [h1, HU.out.2 i hi h2]
  have k23 := Kp.nil.2 hb3
  have hP3 := hP2.kp k23 (by simp) (by simp) (by simp)
  have hK3 := hK2.trans k23
  have hT3 := hT2.of_block (hb3.block tb (by omega))
  have hB3 := hB2.of_block (hb3.block bb (by omega))
  have hi3 := hi2.of_block (hb3.block _ hi2.lt)
  have hor3 : X3.ownsRow base2 60 6 (.slice (some ⟨g2, 0, none⟩) rn rc) rn (entCells er) := own_block_of HH.out.1 (fun k hk => hb3.block k (low_of HH.out.1 k hk))
  have hA3 : ArbIn X3 cb go gc mb kb ab q 0 key aClk := hA.of_heap (fun k hk => hK3.block k hk (by simp))
  have hS3 := hb3.size
  have hrid3 : ∀ e ∈ er, IdAt X3 e.blk e.cap e.key := fun e he => (HH.out.2 e he).of_block (hb3.block _ (HH.out.2 e he).lt)
  clear hP2 hK2 hT2 hB2 hi2 hor2 hrid2 HH hbb u1 u2 u3 hx hb3 k23 cR
  obtain ⟨bs, hbb, u1, u2, u3⟩ := hB3.at_
  obtain ⟨gs, hgs⟩ := own_heap hor3
  have hea := entAt_own (R := []) (by rw [List.append_nil]; exact hor3) j hj
  obtain ⟨ej, hee⟩ : ∃ e, er[j] = e := ⟨_, rfl⟩
  have HEJ := hide hee
  have hej := hrid3 er[j] (List.getElem_mem hj)
  rw [hee] at hea hej
  have hkj : ej.key = key := by rw [← HEJ.out]; exact HU.out.1
  obtain ⟨lcb, lgo, lgc⟩ := hA.lts
  have nbb := hA3.apart hbb (by decide) (by decide)
  have ngs := hA3.apart hgs (by decide) (by decide)
  have hj0 : j < rn := by omega
  have hji : ¬ (j : Int) < 0 := by omega
  have hji' : (0 : Int) ≤ (j : Int) := by omega
  go_upto_region 21 with fail
  refine settle21 (ok := false) (cb := cb) (go := go) (gc := gc) (S := fun w' sa sl sc sk err => err = .nilIface ∧ ArbOut w' cb go gc (q + 1) ej.blk ej.cap ej.clk xb xc xclk) ((cell_of_heap hbb 10).trans u3) hP3.pc hj0 hea.c0 hea.c1 hea.c2 nbb (by omega) ngs (by omega) ?hS ?hSt ?hK
  case hS =>
    intro X' hX'
    refine (settle16_0 tb K p R _ cnt cb go gc mb kb ab q key aClk ej.blk ej.cap xb xc ej.clk xclk X' (hT3.of_block (hX'.block tb hT3.lt (by simp))) (hA3.of_heap (fun k hk => hX'.block k hk (by simp))) hq0 hq1).mono fun e w' ⟨h1, h6, h7⟩ => ?_
    exact ⟨_, _, _, _, _, h1, ⟨rfl, h6⟩, h7⟩
  case hSt =>
    intro w1 w2 z sa sl sc sk err hS hz hzz hk
    have hzn : cb ≠ z ∧ go ≠ z ∧ gc ≠ z := by omega
    exact ⟨hS.1, hS.2.low hzn hk⟩
  case hK =>
  intro t129 t130 t131 t132 t133 t134 t135 t136 t137 t138 t139 t140 t141 t142 t143 zb sa sl sc sk err Y hSY hzb hzz hkY
  have hPY := hP3.kp hkY (not3 (by omega)) (not3 (by omega)) (not3 (by omega))
  have hKY : Kp [cb, go, gc] w Y := (hK3.mono (by simp)).trans hkY
  have hBY := hB3.of_block (hkY.block bb hB3.lt (not3 nbb))
  have hTY := hT3.of_block (hkY.block tb hT3.lt (not3 (by obtain ⟨cs, h⟩ := hT3.tag; exact hA3.apart h (by decide) (by decide))))
  have hoY : Y.ownsRow base2 60 6 (.slice (some ⟨g2, 0, none⟩) rn rc) rn (entCells er) := own_block_of hor3 (fun k hk => by
    obtain ⟨cs, h⟩ := own_tag hor3 hk
    exact hkY.block k (lt_of_heap h) (not3 (hA3.apart h (by decide) (by decide))))
  have howY : Y.ownsRow base 60 6 (.slice (some ⟨g, 0, none⟩) len cap) len (entCells es) := own_block_of how (fun k hk => by
    obtain ⟨cs, h⟩ := own_tag how hk
    have h' := (hK3.block k (lt_of_heap h) (by simp)).trans h
    exact (hkY.block k (lt_of_heap h') (not3 (hA3.apart h' (by decide) (by decide)))).trans (hK3.block k (lt_of_heap h) (by simp)))
  have idY : ∀ b c kk, IdAt w b c kk → IdAt Y b c kk := fun b c kk h => by
    obtain ⟨cs, hc, _⟩ := h.at_
    have h' := (hK3.block b (lt_of_heap hc) (by simp)).trans hc
    exact (h.of_block (hK3.block b (lt_of_heap hc) (by simp))).of_block (hkY.block b (lt_of_heap h') (not3 (hA3.apart h' (by decide) (by decide))))
  have hSz : w.heap.size + 1 + 1 + 1 ≤ Y.heap.size := by have := hkY.size; omega
  clear hP3 hK3 hT3 hB3 hi3 hor3 hA3 hrid3 hbb u1 u2 u3 hgs hea hej nbb ngs hkY
  obtain ⟨rfl, sO⟩ := hSY
  have hidY : ∀ e ∈ es, IdAt Y e.blk e.cap e.key := fun e he => idY _ _ _ (HI.out e he)
  obtain ⟨bs, hbb, u1, u2, u3⟩ := hBY.at_
  obtain ⟨gs, hgs⟩ := own_heap hoY
  have hea := entAt_own (R := []) (by rw [List.append_nil]; exact hoY) j hj
  clear idY hzz
  go_upto_region 25 with fail
  refine heard25 ((cell_of_heap hbb 10).trans u3) hPY.pt hj0 hea.c3 hea.c4 hea.c5 (fun t => hoY.frozenAt t) ?_
  intro t150 t151 t152 t153 t154 t155 t156 t157 Z hZh h7 h8 h9
  have oh := own_heard hoY (i := j) hj s n
  have kg : Kp [g2] Y (((Y.setCell ⟨g2, j * 6 + 3, none⟩ (.int .u64 n)).setCell ⟨g2, j * 6 + 3 + 1, none⟩ (.int .i64 s)).setCell ⟨g2, j * 6 + 3 + 2, none⟩ (.pointer none)) := (((Kp.refl _ _).setCell (by simp) _).setCell (by simp) _).setCell (by simp) _
  have hkZ : Kp [g2] Y Z := ⟨h7, h8, h9, by rw [hZh]; exact kg.size, fun k hk hn => by rw [hZh]; exact kg.block k hk hn⟩
  have hoz := own_block_of oh (w' := Z) (fun k _ => by rw [hZh])
  have hBz := hBY.of_block (hkZ.block bb hBY.lt (by simpa using heap_ne hbb hgs (by decide)))
  have hTz := hTY.of_block (hkZ.block tb hTY.lt (by obtain ⟨cs, h⟩ := hTY.tag; simpa using heap_ne h hgs (by decide)))
  have hPz := hPY.kp hkZ (by simpa using heap_ne hPY.pc hgs (by decide)) (by simpa using heap_ne hPY.pt hgs (by decide)) (by simpa using heap_ne hPY.po hgs (by decide))
  have howz : Z.ownsRow base 60 6 (.slice (some ⟨g, 0, none⟩) len cap) len (entCells es) := own_block_of howY (fun k hk => by
    obtain rfl : g = k := by simpa [Value.ownBlock] using hk
    exact hkZ.block g (low_of howY g hk) (by simpa using hgr.symm))
  have hidz : ∀ e ∈ es, IdAt Z e.blk e.cap e.key := fun e he => (hidY e he).of_block (hkZ.block _ (hidY e he).lt (by simpa using (hidY e he).ne hgs (by decide)))
  have sOz := sO.kp hkZ (by simpa using heap_ne sO.h0 hgs (by decide)) (by simpa using heap_ne sO.h1 hgs (by decide)) (by simpa using heap_ne sO.h2 hgs (by decide))
  have hKz : Kp [cb, go, gc, g2] w Z := (hKY.mono (by simp)).trans (hkZ.mono (by simp))
  have HZ := hide (And.intro hoz sOz)
  have hSZ : w.heap.size + 1 + 1 + 1 ≤ Z.heap.size := Nat.le_trans hSz hkZ.size
  clear hoz sOz oh kg hkZ hZh h7 h8 h9 hPY hKY hBY hTY hoY howY hidY hbb u1 u2 u3 hgs hea sO
  have RC := hide (refusal_any ping pb tb bb K p R _ cnt chg g len cap base _ es Z hTz hBz hel (by omega) hp howz hidz)
  go_wp2_with fail
  refine RC.out.mono ?_
  rintro e Z1 ⟨ov, rfl, hov, hbz⟩
  have hP9 := hPz.kp (Kp.nil.2 hbz) (by simp) (by simp) (by simp)
  have hid9 : ∀ e ∈ es, IdAt Z1 e.blk e.cap e.key := fun e he => (hidz e he).of_block (hbz.block _ (hidz e he).lt)
  have y := cell_of_heap hP9.po
  have yf := free_of_heap hP9.po
  simp at y
  obtain ⟨oa, om, oc, rfl⟩ := hov.shape
  obtain ⟨f8, hkE, hoE⟩ := out_end hP9 hov hid9
  have hKE := (hKz.ofBelow hbz).then hkE (by simp; omega)
  have hZE := ((Kp.nil.2 hbz).mono (D' := [w.heap.size + 1 + 1]) (by simp)).trans hkE
  simp only [World.setCells, Nat.zero_add, Nat.reduceAdd, out9] at f8 hoE hKE hZE
  have HF := hide f8
  have HE := hide (And.intro hoE (And.intro hKE hZE))
  clear f8 hoE hKE hkE hZE hP9 hov hid9 RC hTz howz hidz hKz
  unfold outOld
  go_wp2
  refine bodyPost_ret (v := .tuple #[outOld (.slice oa om oc), .nilIface]) (by have f8 := unhide HF; simp [results, Ybad.results10, go_sem, outOld, f8]) rfl ?_
  obtain ⟨hoE, hKE, hZE⟩ := HE.out
  obtain ⟨hoz, sOz⟩ := HZ.out
  unfold Hit0Post
  simp only [HEJ.out] at hoz sOz ⊢
  refine ⟨_, rfl, hoE, sOz.low (by omega) hZE, own_block_of hoz (fun k hk => ?_), hKE⟩
  obtain ⟨cs', hc⟩ := own_tag hoz hk
  exact hZE.block k (lt_of_heap hc) (by simpa using heap_ne hc hPz.po (by decide))


end Go.Proofs.YbulkagdqDoor

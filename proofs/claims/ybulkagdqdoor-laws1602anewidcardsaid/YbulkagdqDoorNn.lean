import Derived.Test.YbulkagdqDoorNm
namespace Go.Proofs.YbulkagdqDoor
open Go.RowKit
set_option linter.unusedVariables false
set_option maxRecDepth 100000

theorem ArbOut.low {w : World} {cb go gc : Nat} {q : Int} {ib ic : Nat} {iclk : Int} {xb xc : Nat} {xclk : Int} (h : ArbOut w cb go gc q ib ic iclk xb xc xclk) {z : Nat} {w2 : World} (hz : cb ≠ z ∧ go ≠ z ∧ gc ≠ z) (k : Kp [z] w w2) : ArbOut w2 cb go gc q ib ic iclk xb xc xclk :=
  h.kp k (by simpa using hz.1) (by simpa using hz.2.1) (by simpa using hz.2.2)
theorem ArbIn.lts {w : World} {cb go gc mb kb ab : Nat} {q m : Int} {key : Nat} {aClk : Int} (h : ArbIn w cb go gc mb kb ab q m key aClk) : cb < w.heap.size ∧ go < w.heap.size ∧ gc < w.heap.size := by
  obtain ⟨h0, ⟨x0, x1, x2, h1⟩, ⟨y0, y1, y2, h2⟩, h3, h4, h5, hne⟩ := h
  exact ⟨lt_of_heap h0, lt_of_heap h1, lt_of_heap h2⟩
theorem ArbIn.apart {w : World} {cb go gc mb kb ab : Nat} {q m : Int} {key : Nat} {aClk : Int} (h : ArbIn w cb go gc mb kb ab q m key aClk) {k : Nat} {cs : Array Value} {t : TypeId} (hk : w.heap[k]? = some (.cells cs t (0, 0))) (h1 : t ≠ 3) (h2 : t ≠ 58) : k ≠ cb ∧ k ≠ go ∧ k ≠ gc := by
  obtain ⟨q0, ⟨x0, x1, x2, q1⟩, ⟨y0, y1, y2, q2⟩, q3, q4, q5, hne⟩ := h
  exact ⟨heap_ne hk q0 h1, heap_ne hk q1 h2, heap_ne hk q2 h2⟩
theorem not3 {k a b c : Nat} (h : k ≠ a ∧ k ≠ b ∧ k ≠ c) : k ∉ [a, b, c] := by simp [h.1, h.2.1, h.2.2]

def Hit2Post (w : World) (cb go gc : Nat) (q : Int) (er : List Ent) (j : Nat) (hj : j < er.length) (xb xc key : Nat) (xclk : Int) (ET : Nat) (ea : Addr) (e : Ending) (w' : World) : Prop :=
  ∃ eb gg cp, e = .returned (.tuple #[outZero, .iface 99 (.pointer (some ⟨eb, 0, none⟩))]) ∧ w.heap.size ≤ eb ∧ w'.heap[eb]? = some (.cells #[.slice (some ⟨gg, 0, none⟩) 2 cp, .iface ET (.pointer (some ea))] 103 (0, 0)) ∧ w'.cell? ⟨gg, 0, none⟩ = some (.int .u8 key) ∧ w'.cell? ⟨gg, 1, none⟩ = some (.int .u8 0)
      ∧ ArbOut w' cb go gc (q + 1) er[j].blk er[j].cap er[j].clk xb xc xclk ∧ Kp [cb, go, gc] w w'

set_option maxHeartbeats 4000000 in
theorem placeHit2 (tb bb : Nat) (K : Int) (p : Nat) (R : Int) (cnt chg : Int) (ping : Bool) (pb : Nat) (xb xc key : Nat) (xclk s n : Int) (g len cap base : Nat) (es : List Ent) (w : World) (ET : Nat) (ea : Addr) (cb go gc mb kb ab : Nat) (q aClk : Int) (g2 rn rc base2 j : Nat) (er : List Ent)
    (hT : TabAt w tb K (p : Int) R (arbV 16 cb go gc mb kb ab) (onpV ping pb) cnt) (hA : ArbIn w cb go gc mb kb ab q 2 key aClk) (hq0 : 0 ≤ q) (hq1 : q ≤ 100) (hB : BukAt w bb chg (.slice (some ⟨g, 0, none⟩) len cap) (.slice (some ⟨g2, 0, none⟩) rn rc)) (how : w.ownsRow base 60 6 (.slice (some ⟨g, 0, none⟩) len cap) len (entCells es)) (hids : ∀ e ∈ es, IdAt w e.blk e.cap e.key) (hel : es.length = len) (hlK : ¬ (len : Int) < K) (hl : len ≤ 1000) (hp : p ≤ 100) (hid : IdAt w xb xc key) (hR : 0 < R) (hor : w.ownsRow base2 60 6 (.slice (some ⟨g2, 0, none⟩) rn rc) rn (entCells er)) (hrid : ∀ e ∈ er, IdAt w e.blk e.cap e.key) (hrl : er.length = rn) (hrn : rn ≤ 100) (hb2 : base2 ≤ w.heap.size) (hkey : key < 256) (hek : ∀ e ∈ er, e.key < 256) (hj : j < er.length) (hjk : er[j].key = key) (huq : ∀ t (h : t < er.length), er[t].key = key → t = j) (hgr : g2 ≠ g) (hE : w.cell? ⟨0, 0, none⟩ = some (.iface ET (.pointer (some ea)))) (h0b : 0 ≠ cb ∧ 0 ≠ go ∧ 0 ≠ gc) :
    Calls Ybad.prog 10 #[.pointer (some ⟨tb, 0, none⟩), .pointer (some ⟨bb, 0, none⟩), .int .i64 (-1), conV xb xc xclk, tmV s n] w (Hit2Post w cb go gc q er j hj xb xc key xclk ET ea) := by
  obtain ⟨z0, z1, z2, hb0, hS1⟩ := place_three w (.cells #[.slice (some ⟨xb, 0, none⟩) 1 xc, .int .u64 xclk, .nilIface] 58) (.cells #[.int .u64 n, .int .i64 s, .pointer none] 28) (.cells #[.slice none 0 0, .int .u64 0, .nilIface, .bool false, .bool false, .slice none 0 0, .int .u64 0, .nilIface, .slice none 0 0] 75)
  have ltb := hT.lt
  have lbb := hB.lt
  go_enter Ybad.func10, Ybad.ntmps10
  unfold conV tmV
  go_upto_region 12 with fail
  generalize ((w.alloc (.cells #[.slice (some ⟨xb, 0, none⟩) 1 xc, .int .u64 xclk, .nilIface] 58)).alloc (.cells #[.int .u64 n, .int .i64 s, .pointer none] 28)).alloc (.cells #[.slice none 0 0, .int .u64 0, .nilIface, .bool false, .bool false, .slice none 0 0, .int .u64 0, .nilIface, .slice none 0 0] 75) = X1 at z0 z1 z2 hb0 hS1 ⊢
  have hT1 := hT.of_block (hb0.block _ ltb)
  have hB1 := hB.of_block (hb0.block _ lbb)
  obtain ⟨cs, ht, t1, t2, t3, t4, t5, t6⟩ := hT1.at_
  obtain ⟨bs, hbb, u1, u2, u3⟩ := hB1.at_
  have cK := (cell_of_heap ht 1).trans t1
  have c9 := (cell_of_heap hbb 9).trans u2
  go_quiet (fail)
  have hK2 : Kp [] w (X1.drewN nq) := (Kp.nil.2 hb0).drewN nq
  have hP2 : PlAt (X1.drewN nq) w.heap.size xb xc xclk s n := ⟨z0, z1, z2⟩
  have hT2 := hT1.of_block (w' := X1.drewN nq) rfl
  have hB2 := hB1.of_block (w' := X1.drewN nq) rfl
  have hS2 : (X1.drewN nq).heap.size = w.heap.size + 1 + 1 + 1 := hS1
  have cR : (X1.drewN nq).cell? ⟨tb, 4, none⟩ = some (.int .i64 R) := (cell_of_heap ht 4).trans t3
  clear hT1 hB1 ht t1 t2 t3 t4 t5 t6 hbb u1 u2 u3 cK c9 z0 z1 z2 hb0 hS1
  go_upto_region 17 with fail
  generalize X1.drewN nq = X2 at hK2 hP2 hT2 hB2 hS2 cR ⊢
  have hRp : (0 : Int) < R := hR
  obtain ⟨bs, hbb, u1, u2, u3⟩ := hB2.at_
  have hi2 := hid.of_block (hK2.block _ hid.lt (by simp))
  have hor2 : X2.ownsRow base2 60 6 (.slice (some ⟨g2, 0, none⟩) rn rc) rn (entCells er) := own_block_of hor (fun k hk => hK2.block k (low_of hor k hk) (by simp))
  have hrid2 : ∀ e ∈ er, IdAt X2 e.blk e.cap e.key := fun e he => (hrid e he).of_block (hK2.block _ (hrid e he).lt (by simp))
  have HH := hide (And.intro hor2 hrid2)
  have HX := hide hek
  have HU := hide (And.intro hjk huq)
  have HI := hide hids
  have HR2 := hide hrid
  clear hids hrid hjk huq hek
  go_upto_region 19 with fail
  refine index19 (key := key) (es := er) ((cell_of_heap hbb 10).trans u3) hP2.pc hrl (by omega) hkey HX.out (ents_any HH.out.1 HH.out.2) hi2.cell ?_
  intro t120 t121 t122 t123 t124 t125 t126 r X3 hx hb3
  obtain rfl : r = (j : Int) := by
    rcases hx with ⟨_, h⟩ | ⟨i, hi, h1, h2, _⟩
    · exact absurd HU.out.1 (h j hj)
    · rw [h1, HU.out.2 i hi h2]
  have k23 := Kp.nil.2 hb3
  have hP3 := hP2.kp k23 (by simp) (by simp) (by simp)
  have hK3 := hK2.trans k23
  have hT3 := hT2.of_block (hb3.block tb (by omega))
  have hB3 := hB2.of_block (hb3.block bb (by omega))
  have hi3 := hi2.of_block (hb3.block _ hi2.lt)
  have hor3 : X3.ownsRow base2 60 6 (.slice (some ⟨g2, 0, none⟩) rn rc) rn (entCells er) := own_block_of HH.out.1 (fun k hk => hb3.block k (low_of HH.out.1 k hk))
  have hA3 : ArbIn X3 cb go gc mb kb ab q 2 key aClk := hA.of_heap (fun k hk => hK3.block k hk (by simp))
  have hS3 := hb3.size
  have hrid3 : ∀ e ∈ er, IdAt X3 e.blk e.cap e.key := fun e he => (HH.out.2 e he).of_block (hb3.block _ (HH.out.2 e he).lt)
  clear hP2 hK2 hT2 hB2 hi2 hor2 hrid2 HH hbb u1 u2 u3 hx hb3 k23 cR
  obtain ⟨bs, hbb, u1, u2, u3⟩ := hB3.at_
  obtain ⟨gs, hgs⟩ := own_heap hor3
  have hea := entAt_own (R := []) (by rw [List.append_nil]; exact hor3) j hj
  obtain ⟨ej, hee⟩ : ∃ e, er[j] = e := ⟨_, rfl⟩
  have HEJ := hide hee
  have hej := hrid3 er[j] (List.getElem_mem hj)
  rw [hee] at hea hej
  have hkj : ej.key = key := by rw [← HEJ.out]; exact HU.out.1
  obtain ⟨lcb, lgo, lgc⟩ := hA.lts
  have nbb := hA3.apart hbb (by decide) (by decide)
  have ngs := hA3.apart hgs (by decide) (by decide)
  have hj0 : j < rn := by omega
  have hji : ¬ (j : Int) < 0 := by omega
  have hji' : (0 : Int) ≤ (j : Int) := by omega
  go_upto_region 21 with fail
  refine settle21 (ok := false) (cb := cb) (go := go) (gc := gc) (S := fun w' sa sl sc sk err => ∃ eb gg cp, err = .iface 99 (.pointer (some ⟨eb, 0, none⟩)) ∧ w.heap.size ≤ eb ∧ w'.heap[eb]? = some (.cells #[.slice (some ⟨gg, 0, none⟩) 2 cp, .iface ET (.pointer (some ea))] 103 (0, 0)) ∧ w'.cell? ⟨gg, 0, none⟩ = some (.int .u8 key) ∧ w'.cell? ⟨gg, 1, none⟩ = some (.int .u8 0) ∧ ArbOut w' cb go gc (q + 1) ej.blk ej.cap ej.clk xb xc xclk) ((cell_of_heap hbb 10).trans u3) hP3.pc hj0 hea.c0 hea.c1 hea.c2 nbb (by omega) ngs (by omega) ?hS ?hSt ?hK
  case hS =>
    intro X' hX'
    have hE' : X'.cell? ⟨0, 0, none⟩ = some (.iface ET (.pointer (some ea))) := (World.cell?_of_block (w := w) (a := ⟨0, 0, none⟩) ((hX'.block 0 (by have := lt_of_cell hE; simp only [] at this; omega) (by simp)).trans (hK3.block 0 (lt_of_cell hE) (by simp)))).trans hE
    refine (settle16_2 tb K p R _ cnt cb go gc mb kb ab q key aClk ej.blk ej.cap xb xc ej.clk xclk ej.key ET ea X' (hT3.of_block (hX'.block tb hT3.lt (by simp))) (hA3.of_heap (fun k hk => hX'.block k hk (by simp))) hq0 hq1 (hej.of_block (hX'.block _ hej.lt (by simp))) hE' h0b).mono fun e w' ⟨⟨eb, gg, cp, h1, h2, h3, h4, h5⟩, h6, h7⟩ => ?_
    exact ⟨_, _, _, _, _, h1, ⟨eb, gg, cp, rfl, by have := hX'.size; omega, h3, h4, h5, h6⟩, h7⟩
  case hSt =>
    intro w1 w2 z sa sl sc sk err hS hz hzz hk
    have hzn : cb ≠ z ∧ go ≠ z ∧ gc ≠ z := by omega
    obtain ⟨eb, gg, cp, h1, h2, h3, h4, h5, h6⟩ := hS
    have n1 : eb ≠ z := fun e => by
      rcases hzz with h | h
      · rw [e, h] at h3; simp at h3
      · have := lt_of_heap h3; omega
    have n2 : gg ≠ z := fun e => by
      rcases hzz with h | h
      · rw [e, cell_of_heap h 0] at h4; simp at h4
      · have := lt_of_cell h4; simp only [] at this; omega
    exact ⟨eb, gg, cp, h1, h2, (hk.block eb (lt_of_heap h3) (by simpa using n1)).trans h3, (hk.cell (p := ⟨gg, 0, none⟩) (lt_of_cell h4) (by simpa using n2)).trans h4, (hk.cell (p := ⟨gg, 1, none⟩) (lt_of_cell h5) (by simpa using n2)).trans h5, h6.low hzn hk⟩
  case hK =>
  intro t129 t130 t131 t132 t133 t134 t135 t136 t137 t138 t139 t140 t141 t142 t143 zb sa sl sc sk err Y hSY hzb hzz hkY
  have hPY := hP3.kp hkY (not3 (by omega)) (not3 (by omega)) (not3 (by omega))
  have hKY : Kp [cb, go, gc] w Y := (hK3.mono (by simp)).trans hkY
  have hBY := hB3.of_block (hkY.block bb hB3.lt (not3 nbb))
  have hTY := hT3.of_block (hkY.block tb hT3.lt (not3 (by obtain ⟨cs, h⟩ := hT3.tag; exact hA3.apart h (by decide) (by decide))))
  have hoY : Y.ownsRow base2 60 6 (.slice (some ⟨g2, 0, none⟩) rn rc) rn (entCells er) := own_block_of hor3 (fun k hk => by
    obtain ⟨cs, h⟩ := own_tag hor3 hk
    exact hkY.block k (lt_of_heap h) (not3 (hA3.apart h (by decide) (by decide))))
  have howY : Y.ownsRow base 60 6 (.slice (some ⟨g, 0, none⟩) len cap) len (entCells es) := own_block_of how (fun k hk => by
    obtain ⟨cs, h⟩ := own_tag how hk
    have h' := (hK3.block k (lt_of_heap h) (by simp)).trans h
    exact (hkY.block k (lt_of_heap h') (not3 (hA3.apart h' (by decide) (by decide)))).trans (hK3.block k (lt_of_heap h) (by simp)))
  have idY : ∀ b c kk, IdAt w b c kk → IdAt Y b c kk := fun b c kk h => by
    obtain ⟨cs, hc, _⟩ := h.at_
    have h' := (hK3.block b (lt_of_heap hc) (by simp)).trans hc
    exact (h.of_block (hK3.block b (lt_of_heap hc) (by simp))).of_block (hkY.block b (lt_of_heap h') (not3 (hA3.apart h' (by decide) (by decide))))
  have hSz : w.heap.size + 1 + 1 + 1 ≤ Y.heap.size := by have := hkY.size; omega
  clear hP3 hK3 hT3 hB3 hi3 hor3 hA3 hrid3 hbb u1 u2 u3 hgs hea hej nbb ngs hkY
  obtain ⟨eb, gg, cp, rfl, s1, s2, s3, s4, s5⟩ := hSY
  have y := cell_of_heap hPY.po
  have yf := free_of_heap hPY.po
  simp at y
  have hkE : Kp [w.heap.size + 1 + 1] Y (Y.setCells (w.heap.size + 1 + 1) 0 (out9 (.slice none 0 0))) := Kp.setCells (by simp) _ _ (Kp.refl _ _)
  have h9 := heap_setAll (out9 (.slice none 0 0)) hPY.po rfl
  have f8 : ∀ i, (Y.setCells (w.heap.size + 1 + 1) 0 (out9 (.slice none 0 0))).cell? ⟨w.heap.size + 1 + 1, i, none⟩ = (out9 (.slice none 0 0))[i]? := fun i => by rw [cell_of_heap h9]; simp
  have hKE := hKY.then hkE (by simp; omega)
  have n1 : eb ≠ w.heap.size + 1 + 1 := heap_ne s2 hPY.po (by decide)
  have n2 : gg ≠ w.heap.size + 1 + 1 := fun e => by rw [e, cell_of_heap hPY.po 0] at s3; simp at s3
  have r1 := (hkE.block eb (lt_of_heap s2) (by simpa using n1)).trans s2
  have r2 := (hkE.cell (p := ⟨gg, 0, none⟩) (lt_of_cell s3) (by simpa using n2)).trans s3
  have r3 := (hkE.cell (p := ⟨gg, 1, none⟩) (lt_of_cell s4) (by simpa using n2)).trans s4
  have r4 := s5.low (by omega) hkE
  simp only [World.setCells, Nat.zero_add, Nat.reduceAdd, out9] at f8 hKE r1 r2 r3 r4
  have HF := hide f8
  have HE := hide (And.intro r1 (And.intro r2 (And.intro r3 (And.intro r4 hKE))))
  clear f8 hKE r1 r2 r3 r4 hkE h9 hPY hKY hBY hTY hoY howY idY s2 s3 s4 s5
  go_wp2
  refine bodyPost_ret (v := .tuple #[outZero, .iface 99 (.pointer (some ⟨eb, 0, none⟩))]) (by have f8 := unhide HF; simp [results, Ybad.results10, go_sem, outZero, f8]) rfl ?_
  obtain ⟨r1, r2, r3, r4, r5⟩ := HE.out
  unfold Hit2Post
  rw [HEJ.out]
  exact ⟨eb, gg, cp, rfl, by omega, r1, r2, r3, r4, r5⟩


end Go.Proofs.YbulkagdqDoor

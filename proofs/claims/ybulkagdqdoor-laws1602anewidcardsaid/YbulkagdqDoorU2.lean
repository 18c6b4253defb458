import Derived.Test.YbulkagdqDoorU1
namespace Go.Proofs.YbulkagdqDoor
open Go.RowKit
set_option linter.unusedVariables false

structure BukAt (w : World) (bb : Nat) (chg : Int) (con rep : Value) : Prop where
  at_ : ∃ cs : Array Value, w.heap[bb]? = some (.cells cs 56 (0, 0)) ∧ cs[6]? = some (.int .u64 chg) ∧ cs[9]? = some con ∧ cs[10]? = some rep
theorem BukAt.of_block {w w' : World} {bb : Nat} {chg : Int} {con rep : Value} (h : BukAt w bb chg con rep) (hb : w'.heap[bb]? = w.heap[bb]?) : BukAt w' bb chg con rep := by
  obtain ⟨cs, h1, h2⟩ := h.at_
  exact ⟨cs, hb.trans h1, h2⟩
theorem BukAt.lt {w : World} {bb : Nat} {chg : Int} {con rep : Value} (h : BukAt w bb chg con rep) : bb < w.heap.size := by
  obtain ⟨cs, h1, h2⟩ := h.at_
  exact lt_of_heap h1

def outZero : Value := .agg #[.slice none 0 0, .int .u64 0, .nilIface, .bool false, .bool false, .slice none 0 0, .int .u64 0, .nilIface, .slice none 0 0]

theorem heap_setCells {b : Nat} {t : TypeId} : ∀ (vs : List Value) (o : Nat) {w : World} {cs : Array Value}, w.heap[b]? = some (.cells cs t (0, 0)) → (w.setCells b o vs).heap[b]? = some (.cells (lset cs.toList o vs).toArray t (0, 0))
  | [], _, _, _, h => by simpa [lset, World.setCells] using h
  | v :: r, o, w, cs, h => by
    have h1 := heap_setCells r (o + 1) (heap_set (i := o) h v)
    rw [World.setCells, h1, lset]
    simp
theorem heap_setAll {b : Nat} {t : TypeId} {w : World} {cs : Array Value} (vs : List Value) (h : w.heap[b]? = some (.cells cs t (0, 0))) (hl : cs.size = vs.length) : (w.setCells b 0 vs).heap[b]? = some (.cells vs.toArray t (0, 0)) := by
  rw [heap_setCells vs 0 h]
  have := lset_mid vs [] cs.toList [] 0 rfl (by simpa using hl)
  simp at this
  rw [this]

theorem place_end {w W w1 : World} {D : List Nat} {cb go gc : Nat} {q : Int} {ib ic : Nat} {iclk : Int} {xb xc : Nat} {xclk : Int} (hW : Kp [] w W) (b : Nat) (hs : w.heap.size ≤ b)
    (h2 : ArbOut w1 cb go gc q ib ic iclk xb xc xclk) (h3 : Kp D W w1) (p3 : b ≠ cb) (p7 : b ≠ go) (p11 : b ≠ gc) (vs : List Value) (o : Obj) :
    ArbOut ((w1.setCells b 0 vs).alloc o) cb go gc q ib ic iclk xb xc xclk ∧ Kp D w ((w1.setCells b 0 vs).alloc o) ∧ (∀ k, k < w1.heap.size → k ≠ b → ((w1.setCells b 0 vs).alloc o).heap[k]? = w1.heap[k]?) ∧ (∀ cs t, w1.heap[b]? = some (.cells cs t (0, 0)) → cs.size = vs.length → ∀ i, ((w1.setCells b 0 vs).alloc o).cell? ⟨b, i, none⟩ = vs[i]?) := by
  have k0 : Kp [b] w1 ((w1.setCells b 0 vs).alloc o) := (Kp.setCells (by simp) _ _ (Kp.refl _ _)).alloc _
  refine ⟨h2.kp k0 (by simpa using p3.symm) (by simpa using p7.symm) (by simpa using p11.symm), ?_, fun k hk hn => k0.block k hk (by simpa using hn), fun cs t hc hl i => ?_⟩
  · exact ((hW.mono (by simp)).trans h3).then k0 (by simp; exact .inr hs)
  · have h9 := heap_setAll vs hc hl
    rw [World.cell?_alloc_past _ _ _ (lt_of_heap h9), cell_of_heap h9]
    simp

set_option maxRecDepth 100000 in
set_option maxHeartbeats 2000000 in
theorem place8_2 (tb bb : Nat) (K P R : Int) (onp rep : Value) (cnt chg : Int) (cb go gc mb kb ab : Nat) (q : Int) (key : Nat) (aClk : Int) (xb xc : Nat) (xclk s n : Int) (g len cap base i : Nat) (es : List Ent) (ET : Nat) (ea : Addr) (w : World)
    (hT : TabAt w tb K P R (arbV 8 cb go gc mb kb ab) onp cnt) (hA : ArbIn w cb go gc mb kb ab q 2 key aClk) (hq0 : 0 ≤ q) (hq1 : q ≤ 100) (hB : BukAt w bb chg (.slice (some ⟨g, 0, none⟩) len cap) rep) (how : w.ownsRow base 60 6 (.slice (some ⟨g, 0, none⟩) len cap) len (entCells es)) (hl : es.length = len) (hi : i < len) (hlen : len ≤ 2000)
    (hid : IdAt w es[i].blk es[i].cap es[i].key) (hE : w.cell? ⟨0, 0, none⟩ = some (.iface ET (.pointer (some ea)))) (h0b : 0 ≠ cb ∧ 0 ≠ go ∧ 0 ≠ gc) :
    Calls Ybad.prog 10 #[.pointer (some ⟨tb, 0, none⟩), .pointer (some ⟨bb, 0, none⟩), .int .i64 i, conV xb xc xclk, tmV s n] w fun e w' => ∃ eb gg cp, e = .returned (.tuple #[outZero, .iface 99 (.pointer (some ⟨eb, 0, none⟩))]) ∧ w.heap.size ≤ eb ∧ w'.heap[eb]? = some (.cells #[.slice (some ⟨gg, 0, none⟩) 2 cp, .iface ET (.pointer (some ea))] 103 (0, 0)) ∧ w'.cell? ⟨gg, 0, none⟩ = some (.int .u8 key) ∧ w'.cell? ⟨gg, 1, none⟩ = some (.int .u8 0)
      ∧ ArbOut w' cb go gc (q + 1) es[i].blk es[i].cap es[i].clk xb xc xclk ∧ Kp [cb, go, gc] w w' := by
  have hea := entAt_own (R := []) (by rw [List.append_nil]; exact how) i (by omega)
  obtain ⟨e, hee⟩ : ∃ e, es[i] = e := ⟨_, rfl⟩
  simp only [hee] at hid hea ⊢
  obtain ⟨c0, c1, c2, c3, c4, c5⟩ := hea
  obtain ⟨bs, hb1, hb2, hb3, hb4⟩ := hB.at_
  have q1 := (cell_of_heap hb1 9).trans hb3
  have lb := lt_of_heap hb1
  obtain ⟨gcs, hgc⟩ := own_heap how
  have lg := lt_of_heap hgc
  obtain ⟨lb1, lb2, lb3⟩ := lts lb
  obtain ⟨lg1, lg2, lg3⟩ := lts lg
  clear hgc hb1 hb2 hb3 hb4 hB how
  have b4 : ∀ o1 o2 o3 o4, Below w.heap.size w ((((w.alloc o1).alloc o2).alloc o3).alloc o4) := fun o1 o2 o3 o4 => below_al (below_al (below_al (below_al (Below.refl _ _) _) _) _) _
  obtain ⟨l0, l1, l2⟩ : cb < w.heap.size ∧ go < w.heap.size ∧ gc < w.heap.size := by
    obtain ⟨h0, ⟨x0, x1, x2, h1⟩, ⟨y0, y1, y2, h2⟩, h3, h4, h5, hne⟩ := hA
    exact ⟨lt_of_heap h0, lt_of_heap h1, lt_of_heap h2⟩
  have S := fun o1 o2 o3 o4 => settle8_2 tb K P R onp cnt cb go gc mb kb ab q key aClk e.blk e.cap xb xc e.clk xclk e.key ET ea ((((w.alloc o1).alloc o2).alloc o3).alloc o4) (hT.of_block ((b4 o1 o2 o3 o4).block _ hT.lt)) (hA.below (b4 o1 o2 o3 o4)) hq0 hq1 (hid.of_block ((b4 o1 o2 o3 o4).block _ hid.lt)) ((b4 o1 o2 o3 o4).cell (p := ⟨0, 0, none⟩) (lt_of_cell hE) |>.trans hE) h0b
  obtain ⟨p1, p2, p3, p4⟩ := nes l0
  obtain ⟨p5, p6, p7, p8⟩ := nes l1
  obtain ⟨p9, p10, p11, p12⟩ := nes l2
  obtain ⟨s1, s2, s3, s4, s5, s6, s7⟩ := sizes w.heap.size
  have HS := hide S
  clear S b4 hT hA hid hE
  go_enter Ybad.func10, Ybad.ntmps10
  unfold conV tmV
  go_wp2_with fail
  refine (unhide HS _ _ _ _).mono ?_
  rintro ee w1 ⟨⟨eb, gg, cp, rfl, h1, h2, h3, h4⟩, h5, h6⟩
  obtain ⟨hcc, hff⟩ := kcell h6
  have lw : w.heap.size + 1 + 1 + 1 < w1.heap.size := by have := h6.size; simp at this; omega
  have lw2 : w.heap.size + 1 + 1 < w1.heap.size := by omega
  have hgg : gg ≠ w.heap.size + 1 + 1 := by
    intro e
    rw [e, hcc (w.heap.size + 1 + 1) 0 (by simp) p3 p7 p11, World.cell?_alloc_past _ _ _ (by simp), World.cell?_alloc_at _ _ _ _ (by simp)] at h3
    simp at h3
  have heb : w.heap.size + 1 + 1 < eb := by simp at h1; omega
  obtain ⟨f1, f2, f3, f7⟩ := place_end (w := w) ((((Kp.refl _ _).alloc _).alloc _ |>.alloc _).alloc _) (w.heap.size + 1 + 1) (by omega) h5 h6 p3 p7 p11 [.slice none 0 0, .int .u64 0, .nilIface, .bool false, .bool false, .slice none 0 0, .int .u64 0, .nilIface, .slice none 0 0] (.cells #[.slice none 0 0, .int .u64 0, .nilIface] 58)
  have f8 := f7 #[.slice none 0 0, .int .u64 0, .nilIface, .bool false, .bool false, .slice none 0 0, .int .u64 0, .nilIface, .slice none 0 0] 75 (by
    rw [h6.block _ (by simp) (by simp [p3, p7, p11]), Below.heap_alloc _ _ _ (by simp)]
    have := heap_alloc_new' ((w.alloc (.cells #[.slice (some ⟨xb, 0, none⟩) 1 xc, .int .u64 xclk, .nilIface] 58)).alloc (.cells #[.int .u64 n, .int .i64 s, .pointer none] 28)) (.cells #[.slice none 0 0, .int .u64 0, .nilIface, .bool false, .bool false, .slice none 0 0, .int .u64 0, .nilIface, .slice none 0 0] 75)
    simpa using this) rfl
  simp only [World.setCells, Nat.zero_add, Nat.reduceAdd] at f8
  have HF8 := hide f8
  have f4 := (f3 eb (lt_of_heap h2) (by omega)).trans h2
  have f5 := (World.cell?_of_block (w := w1) (a := ⟨gg, 0, none⟩) (f3 gg (lt_of_cell h3) hgg)).trans h3
  have f6 := (World.cell?_of_block (w := w1) (a := ⟨gg, 1, none⟩) (f3 gg (lt_of_cell h4) hgg)).trans h4
  have HF := hide (And.intro heb (And.intro f4 (And.intro f5 (And.intro f6 (And.intro f1 f2)))))
  clear h1 h2 h3 h4 h5 h6 f1 f2 f3 f4 f5 f6 f7 f8 HS hgg heb
  go_wp2
  refine bodyPost_ret (v := .tuple #[outZero, .iface 99 (.pointer (some ⟨eb, 0, none⟩))]) (by have f8 := unhide HF8; simp [results, Ybad.results10, go_sem, outZero, f8]) rfl ⟨eb, gg, cp, rfl, ?_⟩
  obtain ⟨g1, g2, g3, g4, g5, g6⟩ := HF.out
  exact ⟨by omega, g2, g3, g4, g5, g6⟩

theorem own_of_block {w w' : World} {base g n cap : Nat} {e : TypeId} {size : Nat} {xs : List Value} (h : w.ownsRow base e size (.slice (some ⟨g, 0, none⟩) n cap) n xs) (hb : w'.heap[g]? = w.heap[g]?) : w'.ownsRow base e size (.slice (some ⟨g, 0, none⟩) n cap) n xs := by
  refine ⟨h.1, ?_⟩
  rcases h.2 with ⟨h1, _⟩ | ⟨g', cap', cur, h1, h2, h3, h4, h5, h6, h7⟩
  · cases h1
  · cases h1
    exact .inr ⟨g, cap, cur, rfl, h2, hb.trans h3, h4, h5, h6, h7⟩
/-- 'es[i].heard = now'. -/
theorem own_heard {w : World} {base g n cap i : Nat} {es : List Ent} (h : w.ownsRow base 60 6 (.slice (some ⟨g, 0, none⟩) n cap) n (entCells es)) (hi : i < es.length) (s' n' : Int) :
    (((w.setCell ⟨g, i * 6 + 3, none⟩ (.int .u64 n')).setCell ⟨g, i * 6 + 3 + 1, none⟩ (.int .i64 s')).setCell ⟨g, i * 6 + 3 + 2, none⟩ (.pointer none)).ownsRow base 60 6 (.slice (some ⟨g, 0, none⟩) n cap) n (entCells (es.set i { es[i] with s := s', n := n' })) := by
  have h3 := (((h.stored (i * 6 + 3) (.int .u64 n')).1.stored (i * 6 + 3 + 1) (.int .i64 s')).1.stored (i * 6 + 3 + 2) (.pointer none)).1
  have e1 : es.set i { es[i] with s := s', n := n' } = es.take i ++ { es[i] with s := s', n := n' } :: es.drop (i + 1) := by
    rw [List.set_eq_take_append_cons_drop, if_pos hi]
  have hl : (entCells (es.take i)).length = i * 6 := by rw [entCells_length]; simp; omega
  rw [e1]
  rw [ent_split es i hi] at h3
  have e2 : entCells (es.take i ++ { es[i] with s := s', n := n' } :: es.drop (i + 1)) = entCells (es.take i) ++ (.slice (some ⟨es[i].blk, 0, none⟩) 1 es[i].cap :: .int .u64 es[i].clk :: .nilIface :: .int .u64 n' :: .int .i64 s' :: .pointer none :: entCells (es.drop (i + 1))) := by
    rw [entCells_append]
    simp [entCells, Ent.cells]
  have e3 : entCells (es.take i) ++ es[i].cells ++ entCells (es.drop (i + 1)) = entCells (es.take i) ++ (.slice (some ⟨es[i].blk, 0, none⟩) 1 es[i].cap :: .int .u64 es[i].clk :: .nilIface :: .int .u64 es[i].n :: .int .i64 es[i].s :: .pointer none :: entCells (es.drop (i + 1))) := by
    simp [Ent.cells]
  rw [e3] at h3
  rw [e2]
  generalize entCells (es.drop (i + 1)) = R at *
  generalize entCells (es.take i) = A at *
  rw [← hl] at h3 ⊢
  simp only [Nat.add_assoc, Nat.reduceAdd] at h3 ⊢
  simpa using h3

set_option maxRecDepth 100000 in
set_option maxHeartbeats 2000000 in
theorem place8_0 (tb bb : Nat) (K P R : Int) (onp rep : Value) (cnt chg : Int) (cb go gc mb kb ab : Nat) (q : Int) (key : Nat) (aClk : Int) (xb xc : Nat) (xclk s n : Int) (g len cap base i : Nat) (es : List Ent) (w : World)
    (hT : TabAt w tb K P R (arbV 8 cb go gc mb kb ab) onp cnt) (hA : ArbIn w cb go gc mb kb ab q 0 key aClk) (hq0 : 0 ≤ q) (hq1 : q ≤ 100) (hB : BukAt w bb chg (.slice (some ⟨g, 0, none⟩) len cap) rep) (how : w.ownsRow base 60 6 (.slice (some ⟨g, 0, none⟩) len cap) len (entCells es)) (hl : es.length = len) (hi : i < len) (hlen : len ≤ 2000) :
    Calls Ybad.prog 10 #[.pointer (some ⟨tb, 0, none⟩), .pointer (some ⟨bb, 0, none⟩), .int .i64 i, conV xb xc xclk, tmV s n] w fun e w' => e = .returned (.tuple #[outZero, .nilIface])
      ∧ ArbOut w' cb go gc (q + 1) es[i].blk es[i].cap es[i].clk xb xc xclk ∧ Kp [cb, go, gc, g] w w' ∧ w'.ownsRow base 60 6 (.slice (some ⟨g, 0, none⟩) len cap) len (entCells (es.set i { es[i] with s := s, n := n })) := by
  have hea := entAt_own (R := []) (by rw [List.append_nil]; exact how) i (by omega)
  have how0 := how
  obtain ⟨e, hee⟩ : ∃ e, es[i] = e := ⟨_, rfl⟩
  simp only [hee] at hea ⊢
  obtain ⟨c0, c1, c2, c3, c4, c5⟩ := hea
  obtain ⟨bs, hb1, hb2, hb3, hb4⟩ := hB.at_
  have q1 := (cell_of_heap hb1 9).trans hb3
  have lb := lt_of_heap hb1
  obtain ⟨gcs, hgc⟩ := own_heap how
  have lg := lt_of_heap hgc
  have gf := fun j => how.frozenAt j
  obtain ⟨lb1, lb2, lb3⟩ := lts lb
  obtain ⟨lg1, lg2, lg3⟩ := lts lg
  obtain ⟨l0, l1, l2, m1, m2, m3, m4, m5, m6⟩ : cb < w.heap.size ∧ go < w.heap.size ∧ gc < w.heap.size ∧ g ≠ cb ∧ g ≠ go ∧ g ≠ gc ∧ bb ≠ cb ∧ bb ≠ go ∧ bb ≠ gc := by
    obtain ⟨h0, ⟨x0, x1, x2, h1⟩, ⟨y0, y1, y2, h2⟩, h3, h4, h5, hne⟩ := hA
    exact ⟨lt_of_heap h0, lt_of_heap h1, lt_of_heap h2, heap_ne hgc h0 (by decide), heap_ne hgc h1 (by decide), heap_ne hgc h2 (by decide), heap_ne hb1 h0 (by decide), heap_ne hb1 h1 (by decide), heap_ne hb1 h2 (by decide)⟩
  clear hgc hb1 hb2 hb3 hb4 hB how
  have HO := hide how0
  clear how0
  have b4 : ∀ o1 o2 o3 o4, Below w.heap.size w ((((w.alloc o1).alloc o2).alloc o3).alloc o4) := fun o1 o2 o3 o4 => below_al (below_al (below_al (below_al (Below.refl _ _) _) _) _) _
  have S := fun o1 o2 o3 o4 => settle8_0 tb K P R onp cnt cb go gc mb kb ab q key aClk e.blk e.cap xb xc e.clk xclk ((((w.alloc o1).alloc o2).alloc o3).alloc o4) (hT.of_block ((b4 o1 o2 o3 o4).block _ hT.lt)) (hA.below (b4 o1 o2 o3 o4)) hq0 hq1
  obtain ⟨p1, p2, p3, p4⟩ := nes l0
  obtain ⟨p5, p6, p7, p8⟩ := nes l1
  obtain ⟨p9, p10, p11, p12⟩ := nes l2
  obtain ⟨s1, s2, s3, s4, s5, s6, s7⟩ := sizes w.heap.size
  have lb4 : bb < w.heap.size + 1 + 1 + 1 + 1 := by omega
  have lg4 : g < w.heap.size + 1 + 1 + 1 + 1 := by omega
  have HS := hide S
  clear S b4 hT hA
  go_enter Ybad.func10, Ybad.ntmps10
  unfold conV tmV
  go_wp2_with fail
  refine (unhide HS _ _ _ _).mono ?_
  rintro ee w1 ⟨rfl, h5, h6⟩
  obtain ⟨hcc, hff⟩ := kcell h6
  have lw : w.heap.size + 1 + 1 + 1 < w1.heap.size := by have := h6.size; simp at this; omega
  have lw2 : w.heap.size + 1 + 1 < w1.heap.size := by omega
  have past : ∀ k o, k < w.heap.size → k ≠ cb → k ≠ go → k ≠ gc → w1.cell? ⟨k, o, none⟩ = w.cell? ⟨k, o, none⟩ := fun k o hk a1 a2 a3 => by
    rw [hcc k o (by simp; omega) a1 a2 a3, World.cell?_alloc_past _ _ _ (by simp; omega), World.cell?_alloc_past _ _ _ (by simp; omega), World.cell?_alloc_past _ _ _ (by simp; omega), World.cell?_alloc_past _ _ _ hk]
  have u1 := (past bb 9 lb m4 m5 m6).trans q1
  have d3 := (past g (i * 6 + 3) lg m1 m2 m3).trans c3
  have d4 := (past g (i * 6 + 4) lg m1 m2 m3).trans c4
  have d5 := (past g (i * 6 + 5) lg m1 m2 m3).trans c5
  have hbk : w1.heap[g]? = w.heap[g]? := by
    rw [h6.block g (by simp; omega) (by simp [m1, m2, m3]), Below.heap_alloc _ _ _ (by simp; omega), Below.heap_alloc _ _ _ (by simp; omega), Below.heap_alloc _ _ _ (by simp; omega), Below.heap_alloc _ _ _ lg]
  have how1 := own_of_block (unhide HO) hbk
  have df := fun j => how1.frozenAt j
  have n0 : w1.cell? ⟨w.heap.size + 1, 0, none⟩ = some (.int .u64 n) := by rw [hcc _ 0 (by simp) p2 p6 p10, World.cell?_alloc_past _ _ _ (by simp), World.cell?_alloc_past _ _ _ (by simp), World.cell?_alloc_at _ _ _ _ (by simp)]; rfl
  have n1 : w1.cell? ⟨w.heap.size + 1, 1, none⟩ = some (.int .i64 s) := by rw [hcc _ 1 (by simp) p2 p6 p10, World.cell?_alloc_past _ _ _ (by simp), World.cell?_alloc_past _ _ _ (by simp), World.cell?_alloc_at _ _ _ _ (by simp)]; rfl
  have n2 : w1.cell? ⟨w.heap.size + 1, 2, none⟩ = some (.pointer none) := by rw [hcc _ 2 (by simp) p2 p6 p10, World.cell?_alloc_past _ _ _ (by simp), World.cell?_alloc_past _ _ _ (by simp), World.cell?_alloc_at _ _ _ _ (by simp)]; rfl
  have zb : w1.heap[w.heap.size + 1 + 1]? = some (.cells #[.slice none 0 0, .int .u64 0, .nilIface, .bool false, .bool false, .slice none 0 0, .int .u64 0, .nilIface, .slice none 0 0] 75 (0, 0)) := by
    rw [h6.block _ (by simp) (by simp [p3, p7, p11]), Below.heap_alloc _ _ _ (by simp)]
    have := heap_alloc_new' ((w.alloc (.cells #[.slice (some ⟨xb, 0, none⟩) 1 xc, .int .u64 xclk, .nilIface] 58)).alloc (.cells #[.int .u64 n, .int .i64 s, .pointer none] 28)) (.cells #[.slice none 0 0, .int .u64 0, .nilIface, .bool false, .bool false, .slice none 0 0, .int .u64 0, .nilIface, .slice none 0 0] 75)
    simpa using this
  have y0 := cell_of_heap zb 0
  have y1 := cell_of_heap zb 1
  have y2 := cell_of_heap zb 2
  have y3 := cell_of_heap zb 3
  have y4 := cell_of_heap zb 4
  have y5 := cell_of_heap zb 5
  have y6 := cell_of_heap zb 6
  have y7 := cell_of_heap zb 7
  have y8 := cell_of_heap zb 8
  have yf := free_of_heap zb
  simp at y0 y1 y2 y3 y4 y5 y6 y7 y8
  have lw1 : w.heap.size + 1 < w1.heap.size := by omega
  have lgw : g < w1.heap.size := by omega
  have lbw : bb < w1.heap.size := by omega
  have gn : g ≠ w.heap.size + 1 + 1 := by omega
  have gn' : w.heap.size + 1 + 1 ≠ g := by omega
  have kg : Kp [g] w1 (((w1.setCell ⟨g, i * 6 + 3, none⟩ (.int .u64 n)).setCell ⟨g, i * 6 + 3 + 1, none⟩ (.int .i64 s)).setCell ⟨g, i * 6 + 3 + 2, none⟩ (.pointer none)) := (((Kp.refl _ _).setCell (by simp) _).setCell (by simp) _).setCell (by simp) _
  have oh := own_heard how1 (i := i) (by omega) s n
  simp only [hee] at oh
  obtain ⟨f1, f2, f3, f7⟩ := place_end (w := w) ((((Kp.refl _ _).alloc _).alloc _ |>.alloc _).alloc _) (w.heap.size + 1 + 1) (by omega) (h5.kp kg (by simpa using m1.symm) (by simpa using m2.symm) (by simpa using m3.symm)) ((h6.mono (D' := [cb, go, gc, g]) (by simp)).trans (kg.mono (by simp))) p3 p7 p11 [.slice none 0 0, .int .u64 0, .nilIface, .bool false, .bool false, .slice none 0 0, .int .u64 0, .nilIface, .slice none 0 0] (.cells #[.slice none 0 0, .int .u64 0, .nilIface] 58)
  have f8 := f7 #[.slice none 0 0, .int .u64 0, .nilIface, .bool false, .bool false, .slice none 0 0, .int .u64 0, .nilIface, .slice none 0 0] 75 ((kg.block _ lw2 (by simpa using gn')).trans zb) rfl
  have f9 := own_of_block oh (f3 g (by rw [size_setCell, size_setCell, size_setCell]; exact lgw) gn)
  simp only [World.setCells, Nat.zero_add, Nat.reduceAdd] at f1 f2 f8 f9
  have HF := hide (And.intro f1 (And.intro f2 f9))
  have HF8 := hide f8
  clear h5 h6 HS hcc hff past c0 c1 c2 c3 c4 c5 q1 gf how1 zb hbk lb1 lb2 lb3 lg1 lg2 lg3 lb4 lg4 kg oh f1 f2 f3 f7 f8 f9
  go_wp2
  go_region
  go_wp2
  refine bodyPost_ret (v := .tuple #[outZero, .nilIface]) (by have f8 := unhide HF8; simp [results, Ybad.results10, go_sem, outZero, f8]) rfl ⟨rfl, ?_⟩
  obtain ⟨f1, f2, f9⟩ := HF.out
  exact ⟨f1.of_kp0 (Kp.refl _ _).drew, f2.drew, own_of_block f9 rfl⟩

end Go.Proofs.YbulkagdqDoor

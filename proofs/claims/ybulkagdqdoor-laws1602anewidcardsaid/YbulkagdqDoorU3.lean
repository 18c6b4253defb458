import Derived.Test.YbulkagdqDoorU2
namespace Go.Proofs.YbulkagdqDoor
open Go.RowKit
set_option linter.unusedVariables false

set_option maxHeartbeats 400000 in
theorem aload (b o : Nat) (c : Int) (w : World) (h : w.cell? ⟨b, o, none⟩ = some (.int .u64 c)) :
    Calls Ybad.prog 14 #[.pointer (some ⟨b, o, none⟩)] w fun e w' => e = .returned (.int .u64 c) ∧ w' = w := by
  have hd := run_call_load (P := Ybad.prog) (f := 31) Ybad.func31 (by kernel_rfl) (by kernel_rfl) (by kernel_rfl) .u64 (by kernel_rfl) (a := ⟨b, o, none⟩) (w := w) (x := c) h
  go_enter Ybad.func14, Ybad.ntmps14
  go_wp2
  go_ret
  exact ⟨rfl, rfl⟩

set_option maxHeartbeats 400000 in
theorem aadd (b o : Nat) (c : Int) (w : World) (h : w.cell? ⟨b, o, none⟩ = some (.int .u64 c)) (hf : w.frozen? ⟨b, o, none⟩ = false) (h0 : 0 ≤ c) (h1 : c ≤ 100) :
    Calls Ybad.prog 24 #[.pointer (some ⟨b, o, none⟩), .int .u64 1] w fun e w' => e = .returned (.int .u64 (c + 1)) ∧ w' = w.setCell ⟨b, o, none⟩ (.int .u64 (c + 1)) := by
  have hd := run_call_add (P := Ybad.prog) (f := 33) Ybad.func33 (by kernel_rfl) (by kernel_rfl) (by kernel_rfl) .u64 (by kernel_rfl) (a := ⟨b, o, none⟩) (w := w) (x := c) (y := 1) (s := c + 1) h hf (by simp [go_sem, IntKind.wrap_u64]; omega)
  go_enter Ybad.func24, Ybad.ntmps24
  go_wp2
  go_ret
  exact ⟨rfl, rfl⟩

theorem BukAt.set9 {w : World} {bb : Nat} {chg : Int} {con rep : Value} (h : BukAt w bb chg con rep) (v : Value) : BukAt (w.setCell ⟨bb, 9, none⟩ v) bb chg v rep := by
  obtain ⟨cs, h1, h2, h3, h4⟩ := h.at_
  have hs : 9 < cs.size := by
    rcases Nat.lt_or_ge 9 cs.size with h | h
    · exact h
    · rw [Array.getElem?_eq_none h] at h3; cases h3
  refine ⟨_, heap_set (i := 9) h1 v, ?_, ?_, ?_⟩
  · rw [Array.getElem?_setIfInBounds_ne (by decide)]; exact h2
  · rw [Array.getElem?_setIfInBounds_self_of_lt hs]
  · rw [Array.getElem?_setIfInBounds_ne (by decide)]; exact h4
theorem BukAt.set6 {w : World} {bb : Nat} {chg : Int} {con rep : Value} (h : BukAt w bb chg con rep) (c : Int) : BukAt (w.setCell ⟨bb, 6, none⟩ (.int .u64 c)) bb c con rep := by
  obtain ⟨cs, h1, h2, h3, h4⟩ := h.at_
  have hs : 6 < cs.size := by
    rcases Nat.lt_or_ge 6 cs.size with h | h
    · exact h
    · rw [Array.getElem?_eq_none h] at h2; cases h2
  refine ⟨_, heap_set (i := 6) h1 _, ?_, ?_, ?_⟩
  · rw [Array.getElem?_setIfInBounds_self_of_lt hs]
  · rw [Array.getElem?_setIfInBounds_ne (by decide)]; exact h3
  · rw [Array.getElem?_setIfInBounds_ne (by decide)]; exact h4
theorem own_spare {w : World} {base g n cap : Nat} {e : TypeId} {size : Nat} {xs : List Value} (h : w.ownsRow base e size (.slice (some ⟨g, 0, none⟩) n cap) n xs) : n ≤ cap ∧ ∀ j, j < cap * size → (w.cell? ⟨g, j, none⟩).isSome = true ∧ w.frozen? ⟨g, j, none⟩ = false := by
  rcases h.2 with ⟨h1, _⟩ | ⟨g', cap', cur, h1, h2, h3, h4, h5, h6, h7⟩
  · cases h1
  · cases h1
    refine ⟨h4, fun j hj => ⟨?_, free_of_heap h3 j⟩⟩
    rw [cell_of_heap h3, Array.getElem?_eq_getElem (by omega)]
    rfl
theorem news_ok {w : World} {b : Nat} {cs : Array Value} {t : TypeId} (h : w.heap[b]? = some (.cells cs t (0, 0))) : ∀ j u, cs.toList[j]? = some u → w.cell? ((⟨b, 0, none⟩ : Addr).add j) = some u := by
  intro j u hj
  have e : (⟨b, 0, none⟩ : Addr).add j = ⟨b, j, none⟩ := by unfold Addr.add; split <;> simp_all
  rw [e, cell_of_heap h]
  simpa using hj
theorem news_okL {w : World} {b : Nat} (l : List Value) {t : TypeId} (h : w.heap[b]? = some (.cells l.toArray t (0, 0))) : ∀ j u, l[j]? = some u → w.cell? ((⟨b, 0, none⟩ : Addr).add j) = some u := by
  intro j u hj
  exact news_ok h j u (by simpa using hj)
theorem ent_one (e : Ent) : ∀ u ∈ e.cells, u.oneCell' = true := by
  intro u hu
  simp [Ent.cells] at hu
  rcases hu with rfl | rfl | rfl | rfl | rfl | rfl <;> rfl
/-- Laying one entry behind the last. -/
theorem own_push {w : World} {base g n cap : Nat} {es : List Ent} (h : w.ownsRow base 60 6 (.slice (some ⟨g, 0, none⟩) n cap) n (entCells es)) (hn : n + 1 ≤ cap) (e : Ent) :
    (w.setCells g (n * 6) e.cells).ownsRow base 60 6 (.slice (some ⟨g, 0, none⟩) (n + 1) cap) (n + 1) (entCells (es ++ [e])) := by
  rcases h.2 with ⟨h1, _⟩ | ⟨g', cap', cur, h1, h2, h3, h4, h5, h6, h7⟩
  · cases h1
  · cases h1
    have hl := h.1
    refine ⟨by rw [entCells_append, List.length_append, hl]; simp [entCells, Ent.cells]; omega, .inr ⟨g, cap, (lset cur.toList (n * 6) e.cells).toArray, rfl, h2, heap_setCells _ _ h3, hn, h5, by simp [lset_length, h6], ?_⟩⟩
    have e1 : cur.toList = cur.toList.take (n * 6) ++ (cur.toList.drop (n * 6)).take 6 ++ (cur.toList.drop (n * 6)).drop 6 := by rw [List.append_assoc, List.take_append_drop, List.take_append_drop]
    have l1 : (cur.toList.take (n * 6)).length = n * 6 := by rw [h7, hl]
    have l2 : ((cur.toList.drop (n * 6)).take 6).length = e.cells.length := by simp [Ent.cells, h6]; omega
    have e2 : (lset cur.toList (n * 6) e.cells) = cur.toList.take (n * 6) ++ e.cells ++ (cur.toList.drop (n * 6)).drop 6 := by
      conv => lhs; rw [e1]
      exact lset_mid _ _ _ _ _ l1 l2
    rw [e2, h7]
    show ((entCells es ++ e.cells ++ _).toArray).toList.take ((n + 1) * 6) = _
    rw [List.toList_toArray, List.take_append_of_le_length (by rw [List.length_append, hl]; simp [Ent.cells]; omega), List.take_of_length_le (by rw [List.length_append, hl]; simp [Ent.cells]; omega), entCells_append]
    simp [entCells]

theorem kcell1D {g : Nat} {W w1 : World} (h : Kp [g] W.drew w1) : (∀ k o, k < W.heap.size → k ≠ g → w1.cell? ⟨k, o, none⟩ = W.cell? ⟨k, o, none⟩) ∧ (∀ k o, k < W.heap.size → k ≠ g → w1.frozen? ⟨k, o, none⟩ = W.frozen? ⟨k, o, none⟩) :=
  ⟨fun k o hk h1 => h.cell (p := ⟨k, o, none⟩) hk (by simp [h1]), fun k o hk h1 => h.frozen (p := ⟨k, o, none⟩) hk (by simp [h1])⟩

/-- The append that lays one entry behind the row's last, with room. -/
theorem app_run {w : World} {base g m cap blk : Nat} {es : List Ent} {i0 : TypeInfo} (hi0 : Ybad.prog.info? 60 = some i0) (hz1 : i0.size = 6) (h : w.ownsRow base 60 6 (.slice (some ⟨g, 0, none⟩) m cap) m (entCells es)) (hroom : m + 1 ≤ cap) (e : Ent) (hb : w.heap[blk]? = some (.cells e.cells.toArray 60 (0, 0))) (ty : TypeId) :
    (Builtin.append_ #[33, 33] ty #[.slice (some ⟨g, 0, none⟩) m cap, .slice (some ⟨blk, 0, none⟩) 1 1]).run Ybad.prog w = .ok (.slice (some ⟨g, 0, none⟩) (m + 1) cap) (w.setCells g (m * 6) e.cells) := by
  have hsp := (own_spare h).2
  have := run_append_room_cells (P := Ybad.prog) w 33 ty 60 i0 Ybad.underlying33 hi0 g 0 m cap ⟨blk, 0, none⟩ 1 1 e.cells (by rw [hz1]; rfl) (news_ok hb) (by intro u hu; simp [Ent.cells] at hu; rcases hu with rfl | rfl | rfl | rfl | rfl | rfl <;> rfl) hroom (fun j hj => by rw [hz1, Nat.zero_add]; exact (hsp _ (by simp [Ent.cells] at hj; omega)).1) (fun j hj => by rw [hz1, Nat.zero_add]; exact (hsp _ (by simp [Ent.cells] at hj; omega)).2)
  rw [hz1, Nat.zero_add] at this
  exact this

theorem kcell1 {g : Nat} {W w1 : World} (h : Kp [g] W w1) : (∀ k o, k < W.heap.size → k ≠ g → w1.cell? ⟨k, o, none⟩ = W.cell? ⟨k, o, none⟩) ∧ (∀ k o, k < W.heap.size → k ≠ g → w1.frozen? ⟨k, o, none⟩ = W.frozen? ⟨k, o, none⟩) :=
  ⟨fun k o hk h1 => h.cell (p := ⟨k, o, none⟩) hk (by simp [h1]), fun k o hk h1 => h.frozen (p := ⟨k, o, none⟩) hk (by simp [h1])⟩
/-- The append of one entry with room, as a step of a region that draws; the world behind it under a name of its own. -/
theorem step_append_ent {ops : Array Oper} {o : Oper} {a : Act} {w : World} {K : Act → World → Prop} {Q : Exit → Act → World → Prop} {E : Prop}
    (hg : o.guard = none) (s x : Operand) (hop : o.op = Op.call { callee := Callee.builtin Builtin.append, args := #[s, x], argTypes := #[33, 33] })
    {base g m cap blk : Nat} {es : List Ent} (hs : a.eval s = .slice (some ⟨g, 0, none⟩) m cap) (hx : a.eval x = .slice (some ⟨blk, 0, none⟩) 1 1) (e : Ent) (hb : w.heap[blk]? = some (.cells e.cells.toArray 60 (0, 0)))
    (h : w.ownsRow base 60 6 (.slice (some ⟨g, 0, none⟩) m cap) m (entCells es)) (hroom : m + 1 ≤ cap)
    (hK : ∀ w3, w3.ownsRow base 60 6 (.slice (some ⟨g, 0, none⟩) (m + 1) cap) (m + 1) (entCells (es ++ [e])) → Kp [g] w w3 → K (a.put o.dst (.slice (some ⟨g, 0, none⟩) (m + 1) cap)) w3) :
    if Region.wanted o (yielded ops a.tmps) = true then Oper.wp Ybad.prog o a w K Q else E := by
  obtain ⟨i0, hi0, hz0, hz1, hz2⟩ := info_parts Ybad.info60
  have hsp := (own_spare h).2
  refine step_append_room hg s x 33 hop 60 i0 6 Ybad.underlying33 hi0 hz1 g 0 m cap hs ⟨blk, 0, none⟩ 1 1 e.cells hx rfl (news_okL _ hb) (ent_one e) hroom (fun j hj => ?_) ?_
  · rw [Nat.zero_add]
    exact hsp _ (by have hj6 : j < 6 := hj; omega)
  · rw [Nat.zero_add]
    exact hK _ (own_push h hroom e) (Kp.setCells (by simp) _ _ (Kp.refl _ _))

theorem place_end0 {w W w1 : World} {D : List Nat} {cb go gc : Nat} {q : Int} {ib ic : Nat} {iclk : Int} {xb xc : Nat} {xclk : Int} (hW : Kp [] w W) (b : Nat) (hs : w.heap.size ≤ b)
    (h2 : ArbOut w1 cb go gc q ib ic iclk xb xc xclk) (h3 : Kp D W w1) (p3 : b ≠ cb) (p7 : b ≠ go) (p11 : b ≠ gc) (vs : List Value) :
    ArbOut (w1.setCells b 0 vs) cb go gc q ib ic iclk xb xc xclk ∧ Kp D w (w1.setCells b 0 vs) ∧ (∀ k, k < w1.heap.size → k ≠ b → (w1.setCells b 0 vs).heap[k]? = w1.heap[k]?) ∧ (∀ cs t, w1.heap[b]? = some (.cells cs t (0, 0)) → cs.size = vs.length → ∀ i, (w1.setCells b 0 vs).cell? ⟨b, i, none⟩ = vs[i]?) := by
  have k0 : Kp [b] w1 (w1.setCells b 0 vs) := Kp.setCells (by simp) _ _ (Kp.refl _ _)
  refine ⟨h2.kp k0 (by simpa using p3.symm) (by simpa using p7.symm) (by simpa using p11.symm), ?_, fun k hk hn => k0.block k hk (by simpa using hn), fun cs t hc hl i => ?_⟩
  · exact ((hW.mono (by simp)).trans h3).then k0 (by simp; exact .inr hs)
  · have h9 := heap_setAll vs hc hl
    rw [cell_of_heap h9]
    simp

def outUpd (ib ic : Nat) (sclk oclk : Int) : Value := .agg #[.slice (some ⟨ib, 0, none⟩) 1 ic, .int .u64 sclk, .nilIface, .bool false, .bool true, .slice (some ⟨ib, 0, none⟩) 1 ic, .int .u64 oclk, .nilIface, .slice none 0 0]

set_option maxRecDepth 100000 in
set_option maxHeartbeats 1000000 in
theorem place8_1 (tb bb : Nat) (K P R : Int) (onp rep : Value) (cnt chg : Int) (cb go gc mb kb ab : Nat) (q : Int) (key : Nat) (aClk : Int) (xb xc : Nat) (xclk s n : Int) (g len cap base i : Nat) (es : List Ent) (w : World)
    (hT : TabAt w tb K P R (arbV 8 cb go gc mb kb ab) onp cnt) (hA : ArbIn w cb go gc mb kb ab q 1 key aClk) (hq0 : 0 ≤ q) (hq1 : q ≤ 100) (hB : BukAt w bb chg (.slice (some ⟨g, 0, none⟩) len cap) rep) (how : w.ownsRow base 60 6 (.slice (some ⟨g, 0, none⟩) len cap) len (entCells es)) (hl : es.length = len) (hi : i < len) (hlen : len ≤ 2000)
    (hid : IdAt w es[i].blk es[i].cap key) (hkey : key < 256) (hc0 : 0 ≤ chg) (hc1 : chg ≤ 100) :
    Calls Ybad.prog 10 #[.pointer (some ⟨tb, 0, none⟩), .pointer (some ⟨bb, 0, none⟩), .int .i64 i, conV xb xc xclk, tmV s n] w fun e w' => e = .returned (.tuple #[outUpd es[i].blk es[i].cap aClk es[i].clk, .nilIface])
      ∧ ArbOut w' cb go gc (q + 1) es[i].blk es[i].cap es[i].clk xb xc xclk ∧ Kp [cb, go, gc, g, bb] w w' ∧ w'.ownsRow base 60 6 (.slice (some ⟨g, 0, none⟩) len cap) len (entCells (es.take i ++ es.drop (i + 1) ++ [⟨es[i].blk, es[i].cap, key, aClk, s, n⟩])) ∧ BukAt w' bb (chg + 1) (.slice (some ⟨g, 0, none⟩) len cap) rep := by
  have hea := entAt_own (R := []) (by rw [List.append_nil]; exact how) i (by omega)
  have how0 := how
  obtain ⟨e, hee⟩ : ∃ e, es[i] = e := ⟨_, rfl⟩
  simp only [hee] at hea hid ⊢
  obtain ⟨c0, c1, c2, c3, c4, c5⟩ := hea
  obtain ⟨bs, hb1, hb2, hb3, hb4⟩ := hB.at_
  have q1 := (cell_of_heap hb1 9).trans hb3
  have q2 := (cell_of_heap hb1 6).trans hb2
  have lb := lt_of_heap hb1
  obtain ⟨gcs, hgc⟩ := own_heap how
  have lg := lt_of_heap hgc
  have gf := fun j => how.frozenAt j
  obtain ⟨lb1, lb2, lb3⟩ := lts lb
  obtain ⟨lg1, lg2, lg3⟩ := lts lg
  have hgb := heap_ne hgc hb1 (by decide)
  obtain ⟨l0, l1, l2, m1, m2, m3, m4, m5, m6⟩ : cb < w.heap.size ∧ go < w.heap.size ∧ gc < w.heap.size ∧ g ≠ cb ∧ g ≠ go ∧ g ≠ gc ∧ bb ≠ cb ∧ bb ≠ go ∧ bb ≠ gc := by
    obtain ⟨h0, ⟨x0, x1, x2, h1⟩, ⟨y0, y1, y2, h2⟩, h3, h4, h5, hne⟩ := hA
    exact ⟨lt_of_heap h0, lt_of_heap h1, lt_of_heap h2, heap_ne hgc h0 (by decide), heap_ne hgc h1 (by decide), heap_ne hgc h2 (by decide), heap_ne hb1 h0 (by decide), heap_ne hb1 h1 (by decide), heap_ne hb1 h2 (by decide)⟩
  have HB := hide hB
  clear hgc hb1 hb2 hb3 hb4 hB how
  have HO := hide how0
  clear how0
  have b4 : ∀ o1 o2 o3 o4, Below w.heap.size w ((((w.alloc o1).alloc o2).alloc o3).alloc o4) := fun o1 o2 o3 o4 => below_al (below_al (below_al (below_al (Below.refl _ _) _) _) _) _
  have S := fun o1 o2 o3 o4 => settle8_1 tb K P R onp cnt cb go gc mb kb ab q key aClk e.blk e.cap xb xc e.clk xclk ((((w.alloc o1).alloc o2).alloc o3).alloc o4) (hT.of_block ((b4 o1 o2 o3 o4).block _ hT.lt)) (hA.below (b4 o1 o2 o3 o4)) hq0 hq1 (hid.of_block ((b4 o1 o2 o3 o4).block _ hid.lt)) hkey
  obtain ⟨p1, p2, p3, p4⟩ := nes l0
  obtain ⟨p5, p6, p7, p8⟩ := nes l1
  obtain ⟨p9, p10, p11, p12⟩ := nes l2
  obtain ⟨s1, s2, s3, s4, s5, s6, s7⟩ := sizes w.heap.size
  have lb4 : bb < w.heap.size + 1 + 1 + 1 + 1 := by omega
  have lg4 : g < w.heap.size + 1 + 1 + 1 + 1 := by omega
  have HS := hide S
  clear S b4 hT hA hid
  go_enter Ybad.func10, Ybad.ntmps10
  unfold conV tmV
  go_wp2_with fail
  refine (unhide HS _ _ _ _).mono ?_
  rintro ee w1 ⟨rfl, h5, h6⟩
  obtain ⟨hcc, hff⟩ := kcell h6
  have lw : w.heap.size + 1 + 1 + 1 < w1.heap.size := by have := h6.size; simp at this; omega
  have lw2 : w.heap.size + 1 + 1 < w1.heap.size := by omega
  have past : ∀ k o, k < w.heap.size → k ≠ cb → k ≠ go → k ≠ gc → w1.cell? ⟨k, o, none⟩ = w.cell? ⟨k, o, none⟩ := fun k o hk a1 a2 a3 => by
    rw [hcc k o (by simp; omega) a1 a2 a3, World.cell?_alloc_past _ _ _ (by simp; omega), World.cell?_alloc_past _ _ _ (by simp; omega), World.cell?_alloc_past _ _ _ (by simp; omega), World.cell?_alloc_past _ _ _ hk]
  have u1 := (past bb 9 lb m4 m5 m6).trans q1
  have d3 := (past g (i * 6 + 3) lg m1 m2 m3).trans c3
  have d4 := (past g (i * 6 + 4) lg m1 m2 m3).trans c4
  have d5 := (past g (i * 6 + 5) lg m1 m2 m3).trans c5
  have hbk : w1.heap[g]? = w.heap[g]? := by
    rw [h6.block g (by simp; omega) (by simp [m1, m2, m3]), Below.heap_alloc _ _ _ (by simp; omega), Below.heap_alloc _ _ _ (by simp; omega), Below.heap_alloc _ _ _ (by simp; omega), Below.heap_alloc _ _ _ lg]
  have how1 := own_of_block (unhide HO) hbk
  have df := fun j => how1.frozenAt j
  have n0 : w1.cell? ⟨w.heap.size + 1, 0, none⟩ = some (.int .u64 n) := by rw [hcc _ 0 (by simp) p2 p6 p10, World.cell?_alloc_past _ _ _ (by simp), World.cell?_alloc_past _ _ _ (by simp), World.cell?_alloc_at _ _ _ _ (by simp)]; rfl
  have n1 : w1.cell? ⟨w.heap.size + 1, 1, none⟩ = some (.int .i64 s) := by rw [hcc _ 1 (by simp) p2 p6 p10, World.cell?_alloc_past _ _ _ (by simp), World.cell?_alloc_past _ _ _ (by simp), World.cell?_alloc_at _ _ _ _ (by simp)]; rfl
  have n2 : w1.cell? ⟨w.heap.size + 1, 2, none⟩ = some (.pointer none) := by rw [hcc _ 2 (by simp) p2 p6 p10, World.cell?_alloc_past _ _ _ (by simp), World.cell?_alloc_past _ _ _ (by simp), World.cell?_alloc_at _ _ _ _ (by simp)]; rfl
  have zb : w1.heap[w.heap.size + 1 + 1]? = some (.cells #[.slice none 0 0, .int .u64 0, .nilIface, .bool false, .bool false, .slice none 0 0, .int .u64 0, .nilIface, .slice none 0 0] 75 (0, 0)) := by
    rw [h6.block _ (by simp) (by simp [p3, p7, p11]), Below.heap_alloc _ _ _ (by simp)]
    have := heap_alloc_new' ((w.alloc (.cells #[.slice (some ⟨xb, 0, none⟩) 1 xc, .int .u64 xclk, .nilIface] 58)).alloc (.cells #[.int .u64 n, .int .i64 s, .pointer none] 28)) (.cells #[.slice none 0 0, .int .u64 0, .nilIface, .bool false, .bool false, .slice none 0 0, .int .u64 0, .nilIface, .slice none 0 0] 75)
    simpa using this
  have y0 := cell_of_heap zb 0
  have y1 := cell_of_heap zb 1
  have y2 := cell_of_heap zb 2
  have y3 := cell_of_heap zb 3
  have y4 := cell_of_heap zb 4
  have y5 := cell_of_heap zb 5
  have y6 := cell_of_heap zb 6
  have y7 := cell_of_heap zb 7
  have y8 := cell_of_heap zb 8
  have yf := free_of_heap zb
  simp at y0 y1 y2 y3 y4 y5 y6 y7 y8
  have lw1 : w.heap.size + 1 < w1.heap.size := by omega
  have lgw : g < w1.heap.size := by omega
  have lbw : bb < w1.heap.size := by omega
  have gn : g ≠ w.heap.size + 1 + 1 := by omega
  have gn' : w.heap.size + 1 + 1 ≠ g := by omega
  have u2 := (past bb 6 lb m4 m5 m6).trans q2
  have uf : ∀ j, w1.frozen? ⟨bb, j, none⟩ = false := fun j => by
    obtain ⟨bs, hb1, _⟩ := (unhide HB).at_
    have hbk2 : w1.heap[bb]? = w.heap[bb]? := by
      rw [h6.block bb (by simp; omega) (by simp [m4, m5, m6]), Below.heap_alloc _ _ _ (by simp; omega), Below.heap_alloc _ _ _ (by simp; omega), Below.heap_alloc _ _ _ (by simp; omega), Below.heap_alloc _ _ _ lb]
    exact free_of_heap (hbk2.trans hb1) j
  have HF := hide (And.intro h5 (And.intro h6 (And.intro how1 zb)))
  clear h5 h6 HS hcc hff past c0 c1 c2 c3 c4 c5 q1 q2 gf how1 zb hbk lb1 lb2 lb3 lg1 lg2 lg3 lb4 lg4
  go_wp2_with (go_at_call 24; refine (aadd bb 6 chg _ (by rw [World.cell?_alloc_past _ _ _ lbw]; exact u2) (by rw [World.frozen?_alloc_past _ _ _ lbw]; exact uf 6) hc0 hc1).mono ?_; rintro e w' ⟨rfl, rfl⟩)
  obtain ⟨i0, hi0, hz0, hz1, hz2⟩ := info_parts Ybad.info60
  obtain ⟨h5, h6, how1, zb⟩ := HF.out
  have hlc := (own_spare how1).1
  have K5 : Kp [bb] w1 ((w1.setCell ⟨bb, 6, none⟩ (.int .u64 (chg + 1))).alloc (.cells #[.slice (some ⟨e.blk, 0, none⟩) 1 e.cap, .int .u64 aClk, .nilIface] 58)) := ((Kp.refl _ _).setCell (by simp) _).alloc _
  have hbk2 : w1.heap[bb]? = w.heap[bb]? := by
    rw [h6.block bb (by simp; omega) (by simp [m4, m5, m6]), Below.heap_alloc _ _ _ (by simp; omega), Below.heap_alloc _ _ _ (by simp; omega), Below.heap_alloc _ _ _ (by simp; omega), Below.heap_alloc _ _ _ lb]
  have B5 : BukAt ((w1.setCell ⟨bb, 6, none⟩ (.int .u64 (chg + 1))).alloc (.cells #[.slice (some ⟨e.blk, 0, none⟩) 1 e.cap, .int .u64 aClk, .nilIface] 58)) bb (chg + 1) (.slice (some ⟨g, 0, none⟩) len cap) rep :=
    (((unhide HB).of_block hbk2).set6 (chg + 1)).of_block (Below.heap_alloc _ _ _ (by rw [size_setCell]; exact lbw))
  have T5 : ((w1.setCell ⟨bb, 6, none⟩ (.int .u64 (chg + 1))).alloc (.cells #[.slice (some ⟨e.blk, 0, none⟩) 1 e.cap, .int .u64 aClk, .nilIface] 58)).heap[w1.heap.size]? = some (.cells #[.slice (some ⟨e.blk, 0, none⟩) 1 e.cap, .int .u64 aClk, .nilIface] 58 (0, 0)) := by
    have := heap_alloc_new' (w1.setCell ⟨bb, 6, none⟩ (.int .u64 (chg + 1))) (.cells #[.slice (some ⟨e.blk, 0, none⟩) 1 e.cap, .int .u64 aClk, .nilIface] 58)
    rwa [size_setCell] at this
  have old : w1.heap[w.heap.size + 1 + 1 + 1]? = some (.cells #[.slice (some ⟨e.blk, 0, none⟩) 1 e.cap, .int .u64 e.clk, .nilIface] 58 (0, 0)) := by
    rw [h6.block _ (by simp) (by simp [p4, p8, p12])]
    have := heap_alloc_new' (((w.alloc (.cells #[.slice (some ⟨xb, 0, none⟩) 1 xc, .int .u64 xclk, .nilIface] 58)).alloc (.cells #[.int .u64 n, .int .i64 s, .pointer none] 28)).alloc (.cells #[.slice none 0 0, .int .u64 0, .nilIface, .bool false, .bool false, .slice none 0 0, .int .u64 0, .nilIface, .slice none 0 0] 75)) (.cells #[.slice (some ⟨e.blk, 0, none⟩) 1 e.cap, .int .u64 e.clk, .nilIface] 58)
    simpa using this
  have nwb : w1.heap[w.heap.size + 1]? = some (.cells #[.int .u64 n, .int .i64 s, .pointer none] 28 (0, 0)) := by
    rw [h6.block _ (by simp) (by simp [p2, p6, p10]), Below.heap_alloc _ _ _ (by simp), Below.heap_alloc _ _ _ (by simp)]
    have := heap_alloc_new' (w.alloc (.cells #[.slice (some ⟨xb, 0, none⟩) 1 xc, .int .u64 xclk, .nilIface] 58)) (.cells #[.int .u64 n, .int .i64 s, .pointer none] 28)
    simpa using this
  have how5 := own_of_block how1 (K5.block g lgw (by simpa using hgb))
  have old5 := (K5.block _ lw (by simp; omega)).trans old
  have nwb5 := (K5.block _ lw1 (by simp; omega)).trans nwb
  have zb5 := (K5.block _ lw2 (by simp; omega)).trans zb
  have sz5 : ((w1.setCell ⟨bb, 6, none⟩ (.int .u64 (chg + 1))).alloc (.cells #[.slice (some ⟨e.blk, 0, none⟩) 1 e.cap, .int .u64 aClk, .nilIface] 58)).heap.size = w1.heap.size + 1 := by simp [World.setCell]
  have KW := hide (And.intro h5 (And.intro h6 K5))
  clear h5 h6 K5 HF HB HO old nwb zb how1 hbk2 u1 u2 uf d3 d4 d5 df n0 n1 n2 y0 y1 y2 y3 y4 y5 y6 y7 y8 yf
  generalize ((w1.setCell ⟨bb, 6, none⟩ (.int .u64 (chg + 1))).alloc (.cells #[.slice (some ⟨e.blk, 0, none⟩) 1 e.cap, .int .u64 aClk, .nilIface] 58)) = W5 at *
  obtain ⟨bs, hb1, hb2, hb3, hb4⟩ := B5.at_
  have b9 := (cell_of_heap hb1 9).trans hb3
  have bf := free_of_heap hb1
  have t0 := cell_of_heap T5 0
  have t1 := cell_of_heap T5 1
  have t2 := cell_of_heap T5 2
  have n0 := cell_of_heap nwb5 0
  have n1 := cell_of_heap nwb5 1
  have n2 := cell_of_heap nwb5 2
  simp at t0 t1 t2 n0 n1 n2
  clear hb1 hb2 hb3 hb4
  have k1 : bb < W5.heap.size := by omega
  have k2 : w1.heap.size < W5.heap.size := by omega
  have k3 : w.heap.size + 1 < W5.heap.size := by omega
  have k4 : g < W5.heap.size := by omega
  have k1' : bb < W5.heap.size + 1 := by omega
  have k2' : w1.heap.size < W5.heap.size + 1 := by omega
  have k3' : w.heap.size + 1 < W5.heap.size + 1 := by omega
  have k4' : g < W5.heap.size + 1 := by omega
  have e1 : bb ≠ g := Ne.symm hgb
  have e2 : w1.heap.size ≠ g := by omega
  have e3 : w.heap.size + 1 ≠ g := by omega
  have e4 : bb ≠ w1.heap.size := by omega
  have e5 : bb ≠ w.heap.size + 1 := by omega
  have hll : len - 1 + 1 = len := by omega
  have hin : (i : Int) < (len : Int) := by omega
  have HSZ := hide sz5
  have hOA : ∀ X, Kp [] W5 X → X.ownsRow base 60 6 (.slice (some ⟨g, 0, none⟩) len cap) len (entCells es) := fun X hX => own_of_block how5 (hX.block g k4 (by simp))
  have HOA := hide hOA
  have scf : ∀ (X : World) (k o o' : Nat) (vs : List Value), k ≠ g → (X.setCells g o' vs).cell? ⟨k, o, none⟩ = X.cell? ⟨k, o, none⟩ := fun X k o o' vs hk => World.cell?_setCells_out g vs o' X ⟨k, o, none⟩ (fun h => absurd h hk)
  have scz : ∀ (X : World) (a : Addr) (o' : Nat) (vs : List Value), (X.setCells g o' vs).frozen? a = X.frozen? a := fun X a o' vs => World.frozen?_setCells g vs o' X a
  have hwr : IntKind.i64.wrap ((i : Int) + 1) = (i : Int) + 1 := by rw [IntKind.wrap_i64]; omega
  have HWR := hide hwr
  clear hwr
  have HO5 := hide how5
  have HB5 := hide B5
  have HR := hide (And.intro T5 (And.intro old5 (And.intro nwb5 zb5)))
  clear hOA sz5 how5 B5 T5 old5 nwb5 zb5
  go_cut [] (fun wx => wx.ownsRow base 60 6 (.slice (some ⟨g, 0, none⟩) len cap) len (entCells (es.take i ++ es.drop (i + 1) ++ [⟨e.blk, e.cap, key, aClk, s, n⟩])) ∧ Kp [g, bb] W5 wx ∧ BukAt wx bb (chg + 1) (.slice (some ⟨g, 0, none⟩) len cap) rep)
  case first =>
    go_region_held3 (fun x => x.cell? ⟨bb, 9, none⟩ = some (.slice (some ⟨g, 0, none⟩) len cap) ∧ x.cell? ⟨w1.heap.size, 0, none⟩ = some (.slice (some ⟨e.blk, 0, none⟩) 1 e.cap) ∧ x.cell? ⟨w1.heap.size, 1, none⟩ = some (.int .u64 aClk) ∧ x.cell? ⟨w1.heap.size, 2, none⟩ = some .nilIface
        ∧ x.cell? ⟨w.heap.size + 1, 0, none⟩ = some (.int .u64 n) ∧ x.cell? ⟨w.heap.size + 1, 1, none⟩ = some (.int .i64 s) ∧ x.cell? ⟨w.heap.size + 1, 2, none⟩ = some (.pointer none)) (go_keep)
      (first | (go_at_call 25; refine (delete_any g len cap i base _ es _ HWR.out hl hi hlen (unhide HOA _ (by repeat (first | refine Kp.drew ?_ | refine Kp.alloc ?_ _ | exact Kp.refl _ _)))).mono ?_; rintro ee w2 ⟨rfl, ho2, hK2⟩; have hK2' : Kp [g] W5 w2 := (by first | exact hK2.undrew | exact ((Kp.refl _ _).alloc _).trans hK2.undrew); obtain ⟨hc2, hf2⟩ := kcell1 hK2'; have HA := hide (fun X (hX : Kp [] w2 X) => own_of_block ho2 (hX.block g (lt_of_heap (own_heap ho2).choose_spec) (by simp))); have HK2 := hide hK2; have HK2' := hide hK2'; clear ho2 hK2 hK2') | ((fail_if_success (fail_if_success (conv => arg 2; arg 2; arg 2; arg 1; arg 1; arg 1; change Builtin.append))); refine step_append_ent (base := base) (by rfl) (.tmp 66) (.tmp 70) (by rfl) (by rfl) (by rfl) ⟨e.blk, e.cap, key, aClk, s, n⟩ (by first | exact heap_alloc_new' _ _ | exact ((unhide HK2).block _ (by simp) (by simp; omega)).trans (heap_alloc_new' _ _)) (unhide HA _ (by repeat (first | refine Kp.alloc ?_ _ | exact Kp.refl _ _))) (by omega) ?_; intro w3 ho3 hK3; have hK3' : Kp [g] W5 w3 := (by first | exact ((unhide HK2').alloc _).trans hK3 | exact (unhide HK2').trans hK3); obtain ⟨hc3, hf3⟩ := kcell1 hK3'; have hss := World.cell?_setCell_same w3 ⟨bb, 9, none⟩ (.slice (some ⟨g, 0, none⟩) len cap) ((hc3 bb 9 k1 e1).trans b9); have HO3 := hide ho3; have HK3 := hide hK3'; clear ho3 hK3 hK3'))
    all_goals (try go_wp2_with fail)
    all_goals go_meet
    case rel =>
      have o := unhide HO3
      rw [hll] at o
      exact ⟨own_of_block o (Below.heap_setCell _ _ _ _ hgb), ((unhide HK3).mono (by simp)).setCell (by simp) _, ((unhide HB5).of_block ((unhide HK3).block bb k1 (by simpa using e1))).set9 _⟩
    case rel =>
      have o := unhide HO3
      rw [hll] at o
      exact ⟨own_of_block o (Below.heap_setCell _ _ _ _ hgb), ((unhide HK3).mono (by simp)).setCell (by simp) _, ((unhide HB5).of_block ((unhide HK3).block bb k1 (by simpa using e1))).set9 _⟩
  case rest =>
    obtain ⟨r1, r2, r3⟩ := hcut
    obtain ⟨T5, old5, nwb5, zb5⟩ := HR.out
    obtain ⟨h5, h6, K5⟩ := KW.out
    have sz5 := unhide HSZ
    have T6 := (r2.block _ k2 (by simp; omega)).trans T5
    have old6 := (r2.block _ (by omega) (by simp; omega)).trans old5
    have zb6 := (r2.block (w.heap.size + 1 + 1) (by omega) (by simp; omega)).trans zb5
    have x0 := cell_of_heap T6 0
    have x1 := cell_of_heap T6 1
    have x2 := cell_of_heap T6 2
    have v0 := cell_of_heap old6 0
    have v1 := cell_of_heap old6 1
    have v2 := cell_of_heap old6 2
    have y0 := cell_of_heap zb6 0
    have y1 := cell_of_heap zb6 1
    have y2 := cell_of_heap zb6 2
    have y3 := cell_of_heap zb6 3
    have y4 := cell_of_heap zb6 4
    have y5 := cell_of_heap zb6 5
    have y6 := cell_of_heap zb6 6
    have y7 := cell_of_heap zb6 7
    have y8 := cell_of_heap zb6 8
    have yf := free_of_heap zb6
    simp at x0 x1 x2 v0 v1 v2 y0 y1 y2 y3 y4 y5 y6 y7 y8
    have K6 : Kp [g, bb] w1 wc := (K5.mono (by simp)).trans r2
    have o6 : ArbOut wc cb go gc (q + 1) e.blk e.cap e.clk xb xc xclk := h5.kp K6 (by simp; exact ⟨m1.symm, m4.symm⟩) (by simp; exact ⟨m2.symm, m5.symm⟩) (by simp; exact ⟨m3.symm, m6.symm⟩)
    obtain ⟨f1, f2, f3, f7⟩ := place_end0 (w := w) (D := [cb, go, gc, g, bb]) ((((Kp.refl _ _).alloc _).alloc _ |>.alloc _).alloc _) (w.heap.size + 1 + 1) (by omega) o6 ((h6.mono (by simp)).trans (K6.mono (by simp))) p3 p7 p11 [.slice (some ⟨e.blk, 0, none⟩) 1 e.cap, .int .u64 aClk, .nilIface, .bool false, .bool true, .slice (some ⟨e.blk, 0, none⟩) 1 e.cap, .int .u64 e.clk, .nilIface, .slice none 0 0]
    have f8 := f7 _ 75 zb6 rfl
    have f9 := own_of_block r1 (f3 g (lt_of_heap (own_heap r1).choose_spec) (by omega))
    have f10 := r3.of_block (f3 bb r3.lt (by omega))
    simp only [World.setCells, Nat.zero_add, Nat.reduceAdd] at f1 f2 f8 f9 f10
    have HF := hide (And.intro f1 (And.intro f2 (And.intro f9 f10)))
    have HF8 := hide f8
    clear r1 r2 r3 T5 old5 nwb5 zb5 h5 h6 K5 sz5 T6 old6 zb6 K6 o6 f1 f2 f3 f7 f8 f9 f10 HR KW HSZ b9 bf t0 t1 t2 n0 n1 n2
    go_wp2
    refine bodyPost_ret (v := .tuple #[outUpd e.blk e.cap aClk e.clk, .nilIface]) (by have f8 := unhide HF8; simp [results, Ybad.results10, go_sem, outUpd, f8]) rfl ⟨rfl, ?_⟩
    exact HF.out

end Go.Proofs.YbulkagdqDoor

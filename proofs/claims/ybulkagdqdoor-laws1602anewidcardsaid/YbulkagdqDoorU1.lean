import Derived.Test.YbulkagdqDoorT9
import Derived.Deep.DeepCutAuto
namespace Go.Proofs.YbulkagdqDoor
open Go.RowKit

structure TabAt (w : World) (tb : Nat) (K P R : Int) (arb onp : Value) (cnt : Int) : Prop where
  at_ : ∃ cs : Array Value, w.heap[tb]? = some (.cells cs 70 (0, 0)) ∧ cs[1]? = some (.int .i64 K) ∧ cs[2]? = some (.int .i64 P) ∧ cs[4]? = some (.int .i64 R) ∧ cs[6]? = some arb ∧ cs[10]? = some onp ∧ cs[32]? = some (.int .i64 cnt)
theorem TabAt.of_block {w w' : World} {tb : Nat} {K P R : Int} {arb onp : Value} {cnt : Int} (h : TabAt w tb K P R arb onp cnt) (hb : w'.heap[tb]? = w.heap[tb]?) : TabAt w' tb K P R arb onp cnt := by
  obtain ⟨cs, h1, h2⟩ := h.at_
  exact ⟨cs, hb.trans h1, h2⟩
theorem TabAt.lt {w : World} {tb : Nat} {K P R : Int} {arb onp : Value} {cnt : Int} (h : TabAt w tb K P R arb onp cnt) : tb < w.heap.size := by
  obtain ⟨cs, h1, h2⟩ := h.at_
  exact lt_of_heap h1

def arbV (f cb go gc mb kb ab : Nat) : Value := .func (.func f) #[] #[.pointer (some ⟨cb, 0, none⟩), .pointer (some ⟨go, 0, none⟩), .pointer (some ⟨gc, 0, none⟩), .pointer (some ⟨mb, 0, none⟩), .pointer (some ⟨kb, 0, none⟩), .pointer (some ⟨ab, 0, none⟩)]

theorem ArbIn.of_heap {w w' : World} {cb go gc mb kb ab : Nat} {q m : Int} {key : Nat} {aClk : Int} (h : ArbIn w cb go gc mb kb ab q m key aClk) (hb : ∀ k, k < w.heap.size → w'.heap[k]? = w.heap[k]?) : ArbIn w' cb go gc mb kb ab q m key aClk := by
  obtain ⟨h0, ⟨x0, x1, x2, h1⟩, ⟨y0, y1, y2, h2⟩, h3, h4, h5, hne⟩ := h
  exact ⟨(hb _ (lt_of_heap h0)).trans h0, ⟨x0, x1, x2, (hb _ (lt_of_heap h1)).trans h1⟩, ⟨y0, y1, y2, (hb _ (lt_of_heap h2)).trans h2⟩, (hb _ (lt_of_heap h3)).trans h3, (hb _ (lt_of_heap h4)).trans h4, (hb _ (lt_of_heap h5)).trans h5, hne⟩
theorem ArbIn.below {w w' : World} {cb go gc mb kb ab : Nat} {q m : Int} {key : Nat} {aClk : Int} (h : ArbIn w cb go gc mb kb ab q m key aClk) (hb : Below w.heap.size w w') : ArbIn w' cb go gc mb kb ab q m key aClk := h.of_heap hb.block

/-- The cells of a world that has turned in three blocks alone, as a rule for the walk. -/
theorem kcell {a b c : Nat} {W w1 : World} (h : Kp [a, b, c] W w1) : (∀ k o, k < W.heap.size → k ≠ a → k ≠ b → k ≠ c → w1.cell? ⟨k, o, none⟩ = W.cell? ⟨k, o, none⟩) ∧ (∀ k o, k < W.heap.size → k ≠ a → k ≠ b → k ≠ c → w1.frozen? ⟨k, o, none⟩ = W.frozen? ⟨k, o, none⟩) :=
  ⟨fun k o hk h1 h2 h3 => h.cell (p := ⟨k, o, none⟩) hk (by simp [h1, h2, h3]), fun k o hk h1 h2 h3 => h.frozen (p := ⟨k, o, none⟩) hk (by simp [h1, h2, h3])⟩

theorem below_al {w W : World} (h : Below w.heap.size w W) (o : Obj) : Below w.heap.size w (W.alloc o) := h.alloc h.size o
/-- Blocks made behind a world: for the walk. -/
theorem sizes (s : Nat) : s < s + 1 ∧ s < s + 1 + 1 ∧ s < s + 1 + 1 + 1 ∧ s < s + 1 + 1 + 1 + 1 ∧ s + 1 < s + 1 + 1 + 1 ∧ s + 1 < s + 1 + 1 + 1 + 1 ∧ s + 1 + 1 < s + 1 + 1 + 1 + 1 := by omega
theorem nes {x s : Nat} (h : x < s) : s ≠ x ∧ s + 1 ≠ x ∧ s + 1 + 1 ≠ x ∧ s + 1 + 1 + 1 ≠ x := by omega

theorem Kp.undrew {D : List Nat} {a w : World} (h : Kp D a.drew w) : Kp D a w := ⟨h.os, h.tape, h.output, h.size, h.block⟩
theorem settle_cut1 {w W w1 : World} {cb go gc : Nat} {q : Int} {ib ic : Nat} {iclk : Int} {xb xc : Nat} {xclk : Int} (v0 v1 v2 : Value) (hW : W.heap.size = w.heap.size + 1 + 1 + 1)
    (hO : ArbOut w1 cb go gc q ib ic iclk xb xc xclk) (hK : Kp [cb, go, gc] W.drew w1) :
    w.heap.size + 1 + 1 < w1.heap.size ∧ (w1.alloc (.cells #[v0, v1, v2] 58)).heap[w1.heap.size]? = some (.cells #[v0, v1, v2] 58 (0, 0)) ∧ ArbOut (w1.alloc (.cells #[v0, v1, v2] 58)) cb go gc q ib ic iclk xb xc xclk ∧ Kp [cb, go, gc] W (w1.alloc (.cells #[v0, v1, v2] 58)) := by
  have h1 : W.heap.size ≤ w1.heap.size := hK.size
  exact ⟨by omega, heap_alloc_new' _ _, hO.of_kp0 ((Kp.refl _ _).alloc _), hK.undrew.alloc _⟩
theorem settle_cut2 {w W w1 : World} {cb go gc : Nat} {q : Int} {ib ic : Nat} {iclk : Int} {xb xc : Nat} {xclk : Int} (v0 v1 v2 : Value) (hW : W.heap.size = w.heap.size + 1 + 1 + 1)
    (z0 z1 z2 : Value) (hO : ArbOut w1 cb go gc q ib ic iclk xb xc xclk) (hK : Kp [cb, go, gc] (W.alloc (.cells #[z0, z1, z2] 58)).drew w1) (p4 : w.heap.size + 1 + 1 + 1 ≠ cb) (p8 : w.heap.size + 1 + 1 + 1 ≠ go) (p12 : w.heap.size + 1 + 1 + 1 ≠ gc) :
    (((w1.setCell ⟨w.heap.size + 1 + 1 + 1, 0, none⟩ v0).setCell ⟨w.heap.size + 1 + 1 + 1, 1, none⟩ v1).setCell ⟨w.heap.size + 1 + 1 + 1, 2, none⟩ v2).heap[w.heap.size + 1 + 1 + 1]? = some (.cells #[v0, v1, v2] 58 (0, 0)) ∧ ArbOut (((w1.setCell ⟨w.heap.size + 1 + 1 + 1, 0, none⟩ v0).setCell ⟨w.heap.size + 1 + 1 + 1, 1, none⟩ v1).setCell ⟨w.heap.size + 1 + 1 + 1, 2, none⟩ v2) cb go gc q ib ic iclk xb xc xclk ∧ Kp [cb, go, gc] W (((w1.setCell ⟨w.heap.size + 1 + 1 + 1, 0, none⟩ v0).setCell ⟨w.heap.size + 1 + 1 + 1, 1, none⟩ v1).setCell ⟨w.heap.size + 1 + 1 + 1, 2, none⟩ v2) := by
  have h1 : w1.heap[w.heap.size + 1 + 1 + 1]? = some (.cells #[z0, z1, z2] 58 (0, 0)) := by
    rw [hK.block _ (by show _ < (W.alloc _).heap.size; simp; omega) (by simp [p4, p8, p12])]
    have := heap_alloc_new' W (.cells #[z0, z1, z2] 58)
    rwa [hW] at this
  refine ⟨heap_set3 h1 v0 v1 v2, hO.kp (D := [w.heap.size + 1 + 1 + 1]) ((((Kp.refl _ _).setCell (by simp) _).setCell (by simp) _).setCell (by simp) _) (by simpa using p4.symm) (by simpa using p8.symm) (by simpa using p12.symm), ?_⟩
  have h2 : Kp [cb, go, gc] W w1 := ((Kp.refl _ W).alloc _).trans hK.undrew
  exact ((h2.setNew (by simp; omega) _).setNew (by simp; omega) _).setNew (by simp; omega) _

theorem size_setCell (w : World) (a : Addr) (v : Value) : (w.setCell a v).heap.size = w.heap.size := by simp [World.setCell]
theorem bcellD {W w1 : World} (hb : Below W.drew.heap.size W.drew w1) : (∀ b o, b < W.heap.size → w1.cell? ⟨b, o, none⟩ = W.cell? ⟨b, o, none⟩) ∧ (∀ b o, b < W.heap.size → w1.frozen? ⟨b, o, none⟩ = W.frozen? ⟨b, o, none⟩) := bcell (W := W.drew) hb
theorem below_sizeD {B : Nat} {W w1 : World} (hb : Below B W.drew w1) : W.heap.size ≤ w1.heap.size := hb.size
theorem settle_end {w W wc : World} {cb go gc : Nat} {q : Int} {ib ic : Nat} {iclk : Int} {xb xc : Nat} {xclk : Int} (hW : Kp [] w W) (hs : w.heap.size ≤ w.heap.size + 1 + 1)
    (h2 : ArbOut wc cb go gc q ib ic iclk xb xc xclk) (h3 : Kp [cb, go, gc] W wc) (p3 : w.heap.size + 1 + 1 ≠ cb) (p7 : w.heap.size + 1 + 1 ≠ go) (p11 : w.heap.size + 1 + 1 ≠ gc) (v0 v1 v2 : Value) :
    ArbOut (((wc.setCell ⟨w.heap.size + 1 + 1, 0, none⟩ v0).setCell ⟨w.heap.size + 1 + 1, 1, none⟩ v1).setCell ⟨w.heap.size + 1 + 1, 2, none⟩ v2) cb go gc q ib ic iclk xb xc xclk ∧ Kp [cb, go, gc] w (((wc.setCell ⟨w.heap.size + 1 + 1, 0, none⟩ v0).setCell ⟨w.heap.size + 1 + 1, 1, none⟩ v1).setCell ⟨w.heap.size + 1 + 1, 2, none⟩ v2) := by
  refine ⟨h2.kp (D := [w.heap.size + 1 + 1]) ((((Kp.refl _ _).setCell (by simp) _).setCell (by simp) _).setCell (by simp) _) (by simpa using p3.symm) (by simpa using p7.symm) (by simpa using p11.symm), ?_⟩
  have h4 : Kp [cb, go, gc] w wc := (hW.mono (by simp)).trans h3
  exact ((h4.setNew hs _).setNew hs _).setNew hs _

theorem settle_cut5 {w W wd w1 : World} {cb go gc : Nat} {q : Int} {ib ic : Nat} {iclk : Int} {xb xc : Nat} {xclk : Int} {g key : Nat} {z0 z1 z2 : Value} (hO : ArbOut wd cb go gc q ib ic iclk xb xc xclk) (hW : Kp [] w W) (hK : Kp [cb, go, gc] W wd)
    (hz : wd.heap[w.heap.size + 1 + 1]? = some (.cells #[z0, z1, z2] 58 (0, 0))) (hb : Below wd.drew.heap.size wd.drew w1) (hg : wd.drew.heap.size ≤ g) (hc0 : w1.cell? ⟨g, 0, none⟩ = some (.int .u8 key)) (hc1 : w1.cell? ⟨g, 1, none⟩ = some (.int .u8 0))
    (p3 : w.heap.size + 1 + 1 ≠ cb) (p7 : w.heap.size + 1 + 1 ≠ go) (p11 : w.heap.size + 1 + 1 ≠ gc) (ev : Value) (cap : Nat) :
    w.heap.size + 1 + 1 < w1.heap.size ∧ ((((w1.setCell ⟨w.heap.size + 1 + 1, 0, none⟩ z0).setCell ⟨w.heap.size + 1 + 1, 1, none⟩ z1).setCell ⟨w.heap.size + 1 + 1, 2, none⟩ z2).alloc (.cells #[.slice (some ⟨g, 0, none⟩) 2 cap, ev] 103)).heap[w.heap.size + 1 + 1]? = some (.cells #[z0, z1, z2] 58 (0, 0)) ∧
    ((((w1.setCell ⟨w.heap.size + 1 + 1, 0, none⟩ z0).setCell ⟨w.heap.size + 1 + 1, 1, none⟩ z1).setCell ⟨w.heap.size + 1 + 1, 2, none⟩ z2).alloc (.cells #[.slice (some ⟨g, 0, none⟩) 2 cap, ev] 103)).heap[w1.heap.size]? = some (.cells #[.slice (some ⟨g, 0, none⟩) 2 cap, ev] 103 (0, 0)) ∧
    ((((w1.setCell ⟨w.heap.size + 1 + 1, 0, none⟩ z0).setCell ⟨w.heap.size + 1 + 1, 1, none⟩ z1).setCell ⟨w.heap.size + 1 + 1, 2, none⟩ z2).alloc (.cells #[.slice (some ⟨g, 0, none⟩) 2 cap, ev] 103)).cell? ⟨g, 0, none⟩ = some (.int .u8 key) ∧
    ((((w1.setCell ⟨w.heap.size + 1 + 1, 0, none⟩ z0).setCell ⟨w.heap.size + 1 + 1, 1, none⟩ z1).setCell ⟨w.heap.size + 1 + 1, 2, none⟩ z2).alloc (.cells #[.slice (some ⟨g, 0, none⟩) 2 cap, ev] 103)).cell? ⟨g, 1, none⟩ = some (.int .u8 0) ∧
    ArbOut ((((w1.setCell ⟨w.heap.size + 1 + 1, 0, none⟩ z0).setCell ⟨w.heap.size + 1 + 1, 1, none⟩ z1).setCell ⟨w.heap.size + 1 + 1, 2, none⟩ z2).alloc (.cells #[.slice (some ⟨g, 0, none⟩) 2 cap, ev] 103)) cb go gc q ib ic iclk xb xc xclk ∧
    Kp [cb, go, gc] w ((((w1.setCell ⟨w.heap.size + 1 + 1, 0, none⟩ z0).setCell ⟨w.heap.size + 1 + 1, 1, none⟩ z1).setCell ⟨w.heap.size + 1 + 1, 2, none⟩ z2).alloc (.cells #[.slice (some ⟨g, 0, none⟩) 2 cap, ev] 103)) := by
  have l1 := lt_of_heap hz
  have l2 : wd.heap.size ≤ w1.heap.size := hb.size
  have l3 : wd.heap.size ≤ g := hg
  have l4 := lt_of_cell hc0
  simp only [] at l4
  have hb' : Below wd.heap.size wd w1 := ⟨hb.os, hb.tape, hb.output, hb.size, hb.block⟩
  have hz1 : w1.heap[w.heap.size + 1 + 1]? = some (.cells #[z0, z1, z2] 58 (0, 0)) := (hb'.block _ l1).trans hz
  have hs3 := heap_set3 hz1 z0 z1 z2
  have k0 : Kp [w.heap.size + 1 + 1] w1 (((w1.setCell ⟨w.heap.size + 1 + 1, 0, none⟩ z0).setCell ⟨w.heap.size + 1 + 1, 1, none⟩ z1).setCell ⟨w.heap.size + 1 + 1, 2, none⟩ z2) := (((Kp.refl _ _).setCell (by simp) _).setCell (by simp) _).setCell (by simp) _
  have hsz : (((w1.setCell ⟨w.heap.size + 1 + 1, 0, none⟩ z0).setCell ⟨w.heap.size + 1 + 1, 1, none⟩ z1).setCell ⟨w.heap.size + 1 + 1, 2, none⟩ z2).heap.size = w1.heap.size := by rw [size_setCell, size_setCell, size_setCell]
  have k4 : Kp [cb, go, gc] w (((w1.setCell ⟨w.heap.size + 1 + 1, 0, none⟩ z0).setCell ⟨w.heap.size + 1 + 1, 1, none⟩ z1).setCell ⟨w.heap.size + 1 + 1, 2, none⟩ z2) := by
    have h4 : Kp [cb, go, gc] w w1 := ((hW.mono (by simp)).trans hK).ofBelow hb'
    exact ((h4.setNew (by simp; omega) _).setNew (by simp; omega) _).setNew (by simp; omega) _
  have hO1 : ArbOut w1 cb go gc q ib ic iclk xb xc xclk := hO.of_kp0 ((Kp.refl _ _).ofBelow hb')
  have hO2 := hO1.kp k0 (by simpa using p3.symm) (by simpa using p7.symm) (by simpa using p11.symm)
  have c0 := (k0.cell (p := ⟨g, 0, none⟩) l4 (by simp; omega)).trans hc0
  have c1 := (k0.cell (p := ⟨g, 1, none⟩) l4 (by simp; omega)).trans hc1
  generalize (((w1.setCell ⟨w.heap.size + 1 + 1, 0, none⟩ z0).setCell ⟨w.heap.size + 1 + 1, 1, none⟩ z1).setCell ⟨w.heap.size + 1 + 1, 2, none⟩ z2) = wy at *
  refine ⟨by omega, ?_, ?_, ?_, ?_, hO2.of_kp0 ((Kp.refl _ _).alloc _), k4.alloc _⟩
  · rw [Below.heap_alloc _ _ _ (by omega)]; exact hs3
  · have := heap_alloc_new' wy (.cells #[.slice (some ⟨g, 0, none⟩) 2 cap, ev] 103)
    rwa [hsz] at this
  · rw [World.cell?_alloc_past _ _ _ (by omega)]; exact c0
  · rw [World.cell?_alloc_past _ _ _ (by omega)]; exact c1

set_option maxRecDepth 100000 in
set_option maxHeartbeats 2000000 in
theorem settle8_0 (tb : Nat) (K P R : Int) (onp : Value) (cnt : Int) (cb go gc mb kb ab : Nat) (q : Int) (key : Nat) (aClk : Int) (ib ic xb xc : Nat) (iclk xclk : Int) (w : World) (hT : TabAt w tb K P R (arbV 8 cb go gc mb kb ab) onp cnt) (hA : ArbIn w cb go gc mb kb ab q 0 key aClk) (hq0 : 0 ≤ q) (hq1 : q ≤ 100) :
    Calls Ybad.prog 23 #[.pointer (some ⟨tb, 0, none⟩), conV ib ic iclk, conV xb xc xclk] w fun e w' => (e = .returned (.tuple #[.agg #[.slice none 0 0, .int .u64 0, .nilIface], .bool false, .nilIface])) ∧ ArbOut w' cb go gc (q + 1) ib ic iclk xb xc xclk ∧ Kp [cb, go, gc] w w' := by
  obtain ⟨cs, ht, t1, t2, t3, t4, t5, t6⟩ := hT.at_
  have g := (cell_of_heap ht 6).trans t4
  unfold arbV at g
  have ltb := lt_of_heap ht
  obtain ⟨la, lb, lc⟩ := lts ltb
  have ld : tb < w.heap.size + 1 + 1 + 1 + 1 := by omega
  obtain ⟨s1, s2, s3, s4, s5, s6, s7⟩ := sizes w.heap.size
  have g3 : ∀ o1 o2 o3, (((w.alloc o1).alloc o2).alloc o3).cell? ⟨tb, 6, none⟩ = some (.func (.func 8) #[] #[.pointer (some ⟨cb, 0, none⟩), .pointer (some ⟨go, 0, none⟩), .pointer (some ⟨gc, 0, none⟩), .pointer (some ⟨mb, 0, none⟩), .pointer (some ⟨kb, 0, none⟩), .pointer (some ⟨ab, 0, none⟩)]) := by
    intro o1 o2 o3
    rw [World.cell?_alloc_past _ _ _ (by simp; omega), World.cell?_alloc_past _ _ _ (by simp; omega), World.cell?_alloc_past _ _ _ ltb]
    exact g
  have g4 : ∀ o1 o2 o3 o4, ((((w.alloc o1).alloc o2).alloc o3).alloc o4).cell? ⟨tb, 6, none⟩ = some (.func (.func 8) #[] #[.pointer (some ⟨cb, 0, none⟩), .pointer (some ⟨go, 0, none⟩), .pointer (some ⟨gc, 0, none⟩), .pointer (some ⟨mb, 0, none⟩), .pointer (some ⟨kb, 0, none⟩), .pointer (some ⟨ab, 0, none⟩)]) := by
    intro o1 o2 o3 o4
    rw [World.cell?_alloc_past _ _ _ (by simp; omega)]
    exact g3 _ _ _
  have hA' : ∀ W, Below w.heap.size w W → ArbIn W cb go gc mb kb ab q 0 key aClk := fun W hW => hA.below hW
  have HA := hide hA'
  obtain ⟨n1, n2, n3, c1, c2, c3⟩ : tb ≠ cb ∧ tb ≠ go ∧ tb ≠ gc ∧ cb < w.heap.size ∧ go < w.heap.size ∧ gc < w.heap.size := by
    obtain ⟨h0, ⟨x0, x1, x2, h1⟩, ⟨y0, y1, y2, h2⟩, h3, h4, h5, hne⟩ := hA
    exact ⟨heap_ne ht h0 (by decide), heap_ne ht h1 (by decide), heap_ne ht h2 (by decide), lt_of_heap h0, lt_of_heap h1, lt_of_heap h2⟩
  obtain ⟨e1, e2, e3, e4⟩ : w.heap.size + 1 + 1 + 1 ≠ tb ∧ w.heap.size + 1 + 1 + 1 ≠ w.heap.size ∧ w.heap.size + 1 + 1 ≠ w.heap.size ∧ w.heap.size + 1 ≠ w.heap.size := by omega
  obtain ⟨p1, p2, p3, p4⟩ := nes c1
  obtain ⟨p5, p6, p7, p8⟩ := nes c2
  obtain ⟨p9, p10, p11, p12⟩ := nes c3
  clear hA' ht t1 t2 t3 t4 t5 t6 hT hA
  go_enter Ybad.func23, Ybad.ntmps23
  unfold conV
  go_wp2
  go_cut [9, 10] (fun v9 v10 wx => ∃ sb, v9 = .pointer (some ⟨sb, 0, none⟩) ∧ v10 = .bool false ∧ w.heap.size + 1 + 1 < sb ∧ wx.heap[sb]? = some (.cells #[.slice none 0 0, .int .u64 0, .nilIface] 58 (0, 0)) ∧ ArbOut wx cb go gc (q + 1) ib ic iclk xb xc xclk ∧ Kp [cb, go, gc] (((w.alloc (.cells #[.slice (some ⟨ib, 0, none⟩) 1 ic, .int .u64 iclk, .nilIface] 58)).alloc (.cells #[.slice (some ⟨xb, 0, none⟩) 1 xc, .int .u64 xclk, .nilIface] 58)).alloc (.cells #[.slice none 0 0, .int .u64 0, .nilIface] 58)) wx)
  case first =>
    go_region_held3 (fun w' => w'.cell? ⟨tb, 6, none⟩ = some (.func (.func 8) #[] #[.pointer (some ⟨cb, 0, none⟩), .pointer (some ⟨go, 0, none⟩), .pointer (some ⟨gc, 0, none⟩), .pointer (some ⟨mb, 0, none⟩), .pointer (some ⟨kb, 0, none⟩), .pointer (some ⟨ab, 0, none⟩)])
       ∧ w'.cell? ⟨w.heap.size, 0, none⟩ = some (.slice (some ⟨ib, 0, none⟩) 1 ic) ∧ w'.cell? ⟨w.heap.size, 1, none⟩ = some (.int .u64 iclk) ∧ w'.cell? ⟨w.heap.size, 2, none⟩ = some .nilIface
       ∧ w'.cell? ⟨w.heap.size + 1, 0, none⟩ = some (.slice (some ⟨xb, 0, none⟩) 1 xc) ∧ w'.cell? ⟨w.heap.size + 1, 1, none⟩ = some (.int .u64 xclk) ∧ w'.cell? ⟨w.heap.size + 1, 2, none⟩ = some .nilIface) (go_keep)
      ((go_at_call 8; refine (arb8_0 cb go gc mb kb ab q key aClk ib ic xb xc iclk xclk _ (unhide HA _ (by repeat (first | exact Below.refl _ _ | refine Below.drew ?_ | refine below_al ?_ _))) hq0 hq1).mono ?_; rintro e w1 ⟨rfl, hO, hK⟩; obtain ⟨hcc, hff⟩ := kcell hK))
    all_goals (try go_wp2_with fail)
    all_goals go_meet
    case rel =>
      obtain ⟨r1, r2, r3, r4⟩ := settle_cut1 (w := w) (.slice none 0 0) (.int .u64 0) .nilIface (by simp) hO hK
      exact ⟨_, rfl, rfl, r1, r2, r3, r4⟩
    case rel =>
      obtain ⟨r2, r3, r4⟩ := settle_cut2 (w := w) (.slice none 0 0) (.int .u64 0) .nilIface (by simp) _ _ _ hO hK p4 p8 p12
      exact ⟨_, rfl, rfl, by omega, r2, r3, r4⟩
  case rest =>
    obtain ⟨sb, rfl, rfl, hsb, h1, h2, h3⟩ := hcut
    obtain ⟨hcc, hff⟩ := kcell h3
    have HH := hide (settle_end (w := w) ((((Kp.refl _ _).alloc _).alloc _).alloc _) (by omega) h2 h3 p3 p7 p11 (.slice none 0 0) (.int .u64 0) .nilIface)
    clear h1 h2 h3 g g3 g4 HA
    go_wp2
    exact bodyPost_ret (v := .tuple #[.agg #[.slice none 0 0, .int .u64 0, .nilIface], .bool false, .nilIface]) (by simp [results, Ybad.results23, go_sem, hcc, p3, p7, p11]) rfl ⟨rfl, HH.out⟩

set_option maxRecDepth 100000 in
set_option maxHeartbeats 2000000 in
theorem settle8_1 (tb : Nat) (K P R : Int) (onp : Value) (cnt : Int) (cb go gc mb kb ab : Nat) (q : Int) (key : Nat) (aClk : Int) (ib ic xb xc : Nat) (iclk xclk : Int) (w : World) (hT : TabAt w tb K P R (arbV 8 cb go gc mb kb ab) onp cnt) (hA : ArbIn w cb go gc mb kb ab q 1 key aClk) (hq0 : 0 ≤ q) (hq1 : q ≤ 100) (hI : IdAt w ib ic key) (hkey : key < 256) :
    Calls Ybad.prog 23 #[.pointer (some ⟨tb, 0, none⟩), conV ib ic iclk, conV xb xc xclk] w fun e w' => (e = .returned (.tuple #[.agg #[.slice (some ⟨ib, 0, none⟩) 1 ic, .int .u64 aClk, .nilIface], .bool true, .nilIface])) ∧ ArbOut w' cb go gc (q + 1) ib ic iclk xb xc xclk ∧ Kp [cb, go, gc] w w' := by
  have hibl := hI.lt
  have hibc := hI.cell
  obtain ⟨ia1, ia2, ia3⟩ := lts hibl
  obtain ⟨in1, in2, in3⟩ : ib ≠ cb ∧ ib ≠ go ∧ ib ≠ gc := by
    obtain ⟨h0, ⟨x0, x1, x2, h1⟩, ⟨y0, y1, y2, h2⟩, h3, h4, h5, hne⟩ := hA
    exact ⟨hI.ne h0 (by decide), hI.ne h1 (by decide), hI.ne h2 (by decide)⟩
  clear hI
  obtain ⟨cs, ht, t1, t2, t3, t4, t5, t6⟩ := hT.at_
  have g := (cell_of_heap ht 6).trans t4
  unfold arbV at g
  have ltb := lt_of_heap ht
  obtain ⟨la, lb, lc⟩ := lts ltb
  have ld : tb < w.heap.size + 1 + 1 + 1 + 1 := by omega
  obtain ⟨s1, s2, s3, s4, s5, s6, s7⟩ := sizes w.heap.size
  have g3 : ∀ o1 o2 o3, (((w.alloc o1).alloc o2).alloc o3).cell? ⟨tb, 6, none⟩ = some (.func (.func 8) #[] #[.pointer (some ⟨cb, 0, none⟩), .pointer (some ⟨go, 0, none⟩), .pointer (some ⟨gc, 0, none⟩), .pointer (some ⟨mb, 0, none⟩), .pointer (some ⟨kb, 0, none⟩), .pointer (some ⟨ab, 0, none⟩)]) := by
    intro o1 o2 o3
    rw [World.cell?_alloc_past _ _ _ (by simp; omega), World.cell?_alloc_past _ _ _ (by simp; omega), World.cell?_alloc_past _ _ _ ltb]
    exact g
  have g4 : ∀ o1 o2 o3 o4, ((((w.alloc o1).alloc o2).alloc o3).alloc o4).cell? ⟨tb, 6, none⟩ = some (.func (.func 8) #[] #[.pointer (some ⟨cb, 0, none⟩), .pointer (some ⟨go, 0, none⟩), .pointer (some ⟨gc, 0, none⟩), .pointer (some ⟨mb, 0, none⟩), .pointer (some ⟨kb, 0, none⟩), .pointer (some ⟨ab, 0, none⟩)]) := by
    intro o1 o2 o3 o4
    rw [World.cell?_alloc_past _ _ _ (by simp; omega)]
    exact g3 _ _ _
  have hA' : ∀ W, Below w.heap.size w W → ArbIn W cb go gc mb kb ab q 1 key aClk := fun W hW => hA.below hW
  have HA := hide hA'
  obtain ⟨n1, n2, n3, c1, c2, c3⟩ : tb ≠ cb ∧ tb ≠ go ∧ tb ≠ gc ∧ cb < w.heap.size ∧ go < w.heap.size ∧ gc < w.heap.size := by
    obtain ⟨h0, ⟨x0, x1, x2, h1⟩, ⟨y0, y1, y2, h2⟩, h3, h4, h5, hne⟩ := hA
    exact ⟨heap_ne ht h0 (by decide), heap_ne ht h1 (by decide), heap_ne ht h2 (by decide), lt_of_heap h0, lt_of_heap h1, lt_of_heap h2⟩
  obtain ⟨e1, e2, e3, e4⟩ : w.heap.size + 1 + 1 + 1 ≠ tb ∧ w.heap.size + 1 + 1 + 1 ≠ w.heap.size ∧ w.heap.size + 1 + 1 ≠ w.heap.size ∧ w.heap.size + 1 ≠ w.heap.size := by omega
  obtain ⟨p1, p2, p3, p4⟩ := nes c1
  obtain ⟨p5, p6, p7, p8⟩ := nes c2
  obtain ⟨p9, p10, p11, p12⟩ := nes c3
  clear hA' ht t1 t2 t3 t4 t5 t6 hT hA
  go_enter Ybad.func23, Ybad.ntmps23
  unfold conV
  go_wp2
  go_cut [9, 10] (fun v9 v10 wx => ∃ sb nb, v9 = .pointer (some ⟨sb, 0, none⟩) ∧ v10 = .bool true ∧ wx.cell? ⟨nb, 0, none⟩ = some (.int .u8 key) ∧ w.heap.size + 1 + 1 < nb ∧ sb ≠ nb ∧ w.heap.size + 1 + 1 < sb ∧ wx.heap[sb]? = some (.cells #[.slice (some ⟨nb, 0, none⟩) 1 1, .int .u64 aClk, .nilIface] 58 (0, 0)) ∧ ArbOut wx cb go gc (q + 1) ib ic iclk xb xc xclk ∧ Kp [cb, go, gc] (((w.alloc (.cells #[.slice (some ⟨ib, 0, none⟩) 1 ic, .int .u64 iclk, .nilIface] 58)).alloc (.cells #[.slice (some ⟨xb, 0, none⟩) 1 xc, .int .u64 xclk, .nilIface] 58)).alloc (.cells #[.slice none 0 0, .int .u64 0, .nilIface] 58)) wx)
  case first =>
    go_region_held3 (fun w' => w'.cell? ⟨tb, 6, none⟩ = some (.func (.func 8) #[] #[.pointer (some ⟨cb, 0, none⟩), .pointer (some ⟨go, 0, none⟩), .pointer (some ⟨gc, 0, none⟩), .pointer (some ⟨mb, 0, none⟩), .pointer (some ⟨kb, 0, none⟩), .pointer (some ⟨ab, 0, none⟩)])
       ∧ w'.cell? ⟨w.heap.size, 0, none⟩ = some (.slice (some ⟨ib, 0, none⟩) 1 ic) ∧ w'.cell? ⟨w.heap.size, 1, none⟩ = some (.int .u64 iclk) ∧ w'.cell? ⟨w.heap.size, 2, none⟩ = some .nilIface
       ∧ w'.cell? ⟨w.heap.size + 1, 0, none⟩ = some (.slice (some ⟨xb, 0, none⟩) 1 xc) ∧ w'.cell? ⟨w.heap.size + 1, 1, none⟩ = some (.int .u64 xclk) ∧ w'.cell? ⟨w.heap.size + 1, 2, none⟩ = some .nilIface) (go_keep)
      ((go_at_call 8; refine (arb8_1 cb go gc mb kb ab q key aClk ib ic xb xc iclk xclk _ (unhide HA _ (by repeat (first | exact Below.refl _ _ | refine Below.drew ?_ | refine below_al ?_ _))) hq0 hq1).mono ?_; rintro e w1 ⟨⟨nb, rfl, hnb, hnc⟩, hO, hK⟩; obtain ⟨hcc, hff⟩ := kcell hK))
    all_goals (try go_wp2_with fail)
    all_goals go_meet
    case rel =>
      obtain ⟨r1, r2, r3, r4⟩ := settle_cut1 (w := w) (.slice (some ⟨nb, 0, none⟩) 1 1) (.int .u64 aClk) .nilIface (by simp) hO hK
      exact ⟨_, _, rfl, rfl, by rw [World.cell?_alloc_past _ _ _ (lt_of_cell hnc)]; exact hnc, by have h := hnb; simp at h; omega, by have := lt_of_cell hnc; simp at this; omega, r1, r2, r3, r4⟩
    case rel =>
      obtain ⟨r2, r3, r4⟩ := settle_cut2 (w := w) (.slice (some ⟨nb, 0, none⟩) 1 1) (.int .u64 aClk) .nilIface (by simp) _ _ _ hO hK p4 p8 p12
      exact ⟨_, _, rfl, rfl, by have h := hnb; simp at h; rw [World.cell?_setCell_far _ _ _ _ (by simp; omega), World.cell?_setCell_far _ _ _ _ (by simp; omega), World.cell?_setCell_far _ _ _ _ (by simp; omega)]; exact hnc, by have h := hnb; simp at h; omega, by have h := hnb; simp at h; omega, by omega, r2, r3, r4⟩
  case rest =>
    obtain ⟨sb, nb, rfl, rfl, hn1, hn2, hn3, hsb, h1, h2, h3⟩ := hcut
    obtain ⟨hcc, hff⟩ := kcell h3
    have hi1 : wc.cell? ⟨ib, 0, none⟩ = some (.int .u8 key) := by
      rw [hcc ib 0 (by simp; omega) in1 in2 in3, World.cell?_alloc_past _ _ _ (by simp; omega), World.cell?_alloc_past _ _ _ (by simp; omega), World.cell?_alloc_past _ _ _ hibl]
      exact hibc
    have b0 := cell_of_heap h1 0
    have b1 := cell_of_heap h1 1
    have b2 := cell_of_heap h1 2
    have bf := free_of_heap h1
    simp at b0 b1 b2
    have bn : sb ≠ w.heap.size + 1 + 1 := by omega
    have bn' : w.heap.size + 1 + 1 ≠ sb := by omega
    have bn2 : sb ≠ w.heap.size := by omega
    have HH0 := h2
    have hbq := lt_of_heap h1
    obtain ⟨q1, q2, q3⟩ : sb ≠ cb ∧ sb ≠ go ∧ sb ≠ gc := by
      have l0 := lt_of_heap h2.h0
      refine ⟨heap_ne h1 h2.h0 (by decide), ?_, ?_⟩
      · intro e; subst e; omega
      · intro e; subst e; omega
    have HH := hide (settle_end (w := w) (wc := wc.setCell ⟨sb, 0, none⟩ (.slice (some ⟨ib, 0, none⟩) 1 ic)) ((((Kp.refl _ _).alloc _).alloc _).alloc _) (by omega) (h2.kp (D := [sb]) ((Kp.refl _ _).setCell (by simp) _) (by simpa using q1.symm) (by simpa using q2.symm) (by simpa using q3.symm)) (h3.setNew (by simp; omega) _) p3 p7 p11 (.slice (some ⟨ib, 0, none⟩) 1 ic) (.int .u64 aClk) .nilIface)
    clear h1 h2 h3 g g3 g4 HA HH0
    go_wp2_with (go_at_call 11; refine (beq11 nb 1 ib ic key key _ hkey hkey hn1 hi1).mono ?_; rintro e w' ⟨rfl, rfl⟩)
    exact bodyPost_ret (v := .tuple #[.agg #[.slice (some ⟨ib, 0, none⟩) 1 ic, .int .u64 aClk, .nilIface], .bool true, .nilIface]) (by simp [results, Ybad.results23, go_sem, hcc, p3, p7, p11]) rfl ⟨rfl, HH.out⟩

set_option maxRecDepth 100000 in
set_option maxHeartbeats 2000000 in
theorem settle8_2 (tb : Nat) (K P R : Int) (onp : Value) (cnt : Int) (cb go gc mb kb ab : Nat) (q : Int) (key : Nat) (aClk : Int) (ib ic xb xc : Nat) (iclk xclk : Int) (ikey ET : Nat) (ea : Addr) (w : World) (hT : TabAt w tb K P R (arbV 8 cb go gc mb kb ab) onp cnt) (hA : ArbIn w cb go gc mb kb ab q 2 key aClk) (hq0 : 0 ≤ q) (hq1 : q ≤ 100) (hI : IdAt w ib ic ikey)  (hE : w.cell? ⟨0, 0, none⟩ = some (.iface ET (.pointer (some ea)))) (h0b : 0 ≠ cb ∧ 0 ≠ go ∧ 0 ≠ gc) :
    Calls Ybad.prog 23 #[.pointer (some ⟨tb, 0, none⟩), conV ib ic iclk, conV xb xc xclk] w fun e w' => (∃ eb g cap, e = .returned (.tuple #[.agg #[.slice none 0 0, .int .u64 0, .nilIface], .bool false, .iface 99 (.pointer (some ⟨eb, 0, none⟩))]) ∧ w.heap.size ≤ eb ∧ w'.heap[eb]? = some (.cells #[.slice (some ⟨g, 0, none⟩) 2 cap, .iface ET (.pointer (some ea))] 103 (0, 0)) ∧ w'.cell? ⟨g, 0, none⟩ = some (.int .u8 key) ∧ w'.cell? ⟨g, 1, none⟩ = some (.int .u8 0)) ∧ ArbOut w' cb go gc (q + 1) ib ic iclk xb xc xclk ∧ Kp [cb, go, gc] w w' := by
  have hibl := hI.lt
  have hibc := hI.cell
  obtain ⟨ia1, ia2, ia3⟩ := lts hibl
  obtain ⟨in1, in2, in3⟩ : ib ≠ cb ∧ ib ≠ go ∧ ib ≠ gc := by
    obtain ⟨h0, ⟨x0, x1, x2, h1⟩, ⟨y0, y1, y2, h2⟩, h3, h4, h5, hne⟩ := hA
    exact ⟨hI.ne h0 (by decide), hI.ne h1 (by decide), hI.ne h2 (by decide)⟩
  clear hI
  have hEl := lt_of_cell hE
  simp at hEl
  obtain ⟨cs, ht, t1, t2, t3, t4, t5, t6⟩ := hT.at_
  have g := (cell_of_heap ht 6).trans t4
  unfold arbV at g
  have ltb := lt_of_heap ht
  obtain ⟨la, lb, lc⟩ := lts ltb
  have ld : tb < w.heap.size + 1 + 1 + 1 + 1 := by omega
  obtain ⟨s1, s2, s3, s4, s5, s6, s7⟩ := sizes w.heap.size
  have g3 : ∀ o1 o2 o3, (((w.alloc o1).alloc o2).alloc o3).cell? ⟨tb, 6, none⟩ = some (.func (.func 8) #[] #[.pointer (some ⟨cb, 0, none⟩), .pointer (some ⟨go, 0, none⟩), .pointer (some ⟨gc, 0, none⟩), .pointer (some ⟨mb, 0, none⟩), .pointer (some ⟨kb, 0, none⟩), .pointer (some ⟨ab, 0, none⟩)]) := by
    intro o1 o2 o3
    rw [World.cell?_alloc_past _ _ _ (by simp; omega), World.cell?_alloc_past _ _ _ (by simp; omega), World.cell?_alloc_past _ _ _ ltb]
    exact g
  have g4 : ∀ o1 o2 o3 o4, ((((w.alloc o1).alloc o2).alloc o3).alloc o4).cell? ⟨tb, 6, none⟩ = some (.func (.func 8) #[] #[.pointer (some ⟨cb, 0, none⟩), .pointer (some ⟨go, 0, none⟩), .pointer (some ⟨gc, 0, none⟩), .pointer (some ⟨mb, 0, none⟩), .pointer (some ⟨kb, 0, none⟩), .pointer (some ⟨ab, 0, none⟩)]) := by
    intro o1 o2 o3 o4
    rw [World.cell?_alloc_past _ _ _ (by simp; omega)]
    exact g3 _ _ _
  have hA' : ∀ W, Below w.heap.size w W → ArbIn W cb go gc mb kb ab q 2 key aClk := fun W hW => hA.below hW
  have HA := hide hA'
  obtain ⟨n1, n2, n3, c1, c2, c3⟩ : tb ≠ cb ∧ tb ≠ go ∧ tb ≠ gc ∧ cb < w.heap.size ∧ go < w.heap.size ∧ gc < w.heap.size := by
    obtain ⟨h0, ⟨x0, x1, x2, h1⟩, ⟨y0, y1, y2, h2⟩, h3, h4, h5, hne⟩ := hA
    exact ⟨heap_ne ht h0 (by decide), heap_ne ht h1 (by decide), heap_ne ht h2 (by decide), lt_of_heap h0, lt_of_heap h1, lt_of_heap h2⟩
  obtain ⟨e1, e2, e3, e4⟩ : w.heap.size + 1 + 1 + 1 ≠ tb ∧ w.heap.size + 1 + 1 + 1 ≠ w.heap.size ∧ w.heap.size + 1 + 1 ≠ w.heap.size ∧ w.heap.size + 1 ≠ w.heap.size := by omega
  obtain ⟨p1, p2, p3, p4⟩ := nes c1
  obtain ⟨p5, p6, p7, p8⟩ := nes c2
  obtain ⟨p9, p10, p11, p12⟩ := nes c3
  clear hA' ht t1 t2 t3 t4 t5 t6 hT hA
  go_enter Ybad.func23, Ybad.ntmps23
  unfold conV
  go_wp2
  go_cut [9, 10] (fun v9 v10 wx => ∃ sb nb, v9 = .pointer (some ⟨sb, 0, none⟩) ∧ v10 = .bool true ∧ wx.cell? ⟨nb, 0, none⟩ = some (.int .u8 key) ∧ wx.cell? ⟨nb, 1, none⟩ = some (.int .u8 0) ∧ w.heap.size + 1 + 1 < nb ∧ sb ≠ nb ∧ w.heap.size + 1 + 1 < sb ∧ wx.heap[sb]? = some (.cells #[.slice (some ⟨nb, 0, none⟩) 2 2, .int .u64 aClk, .nilIface] 58 (0, 0)) ∧ ArbOut wx cb go gc (q + 1) ib ic iclk xb xc xclk ∧ Kp [cb, go, gc] (((w.alloc (.cells #[.slice (some ⟨ib, 0, none⟩) 1 ic, .int .u64 iclk, .nilIface] 58)).alloc (.cells #[.slice (some ⟨xb, 0, none⟩) 1 xc, .int .u64 xclk, .nilIface] 58)).alloc (.cells #[.slice none 0 0, .int .u64 0, .nilIface] 58)) wx)
  case first =>
    go_region_held3 (fun w' => w'.cell? ⟨tb, 6, none⟩ = some (.func (.func 8) #[] #[.pointer (some ⟨cb, 0, none⟩), .pointer (some ⟨go, 0, none⟩), .pointer (some ⟨gc, 0, none⟩), .pointer (some ⟨mb, 0, none⟩), .pointer (some ⟨kb, 0, none⟩), .pointer (some ⟨ab, 0, none⟩)])
       ∧ w'.cell? ⟨w.heap.size, 0, none⟩ = some (.slice (some ⟨ib, 0, none⟩) 1 ic) ∧ w'.cell? ⟨w.heap.size, 1, none⟩ = some (.int .u64 iclk) ∧ w'.cell? ⟨w.heap.size, 2, none⟩ = some .nilIface
       ∧ w'.cell? ⟨w.heap.size + 1, 0, none⟩ = some (.slice (some ⟨xb, 0, none⟩) 1 xc) ∧ w'.cell? ⟨w.heap.size + 1, 1, none⟩ = some (.int .u64 xclk) ∧ w'.cell? ⟨w.heap.size + 1, 2, none⟩ = some .nilIface) (go_keep)
      ((go_at_call 8; refine (arb8_2 cb go gc mb kb ab q key aClk ib ic xb xc iclk xclk _ (unhide HA _ (by repeat (first | exact Below.refl _ _ | refine Below.drew ?_ | refine below_al ?_ _))) hq0 hq1).mono ?_; rintro e w1 ⟨⟨nb, rfl, hnb, hnc, hnc2⟩, hO, hK⟩; obtain ⟨hcc, hff⟩ := kcell hK))
    all_goals (try go_wp2_with fail)
    all_goals go_meet
    case rel =>
      obtain ⟨r1, r2, r3, r4⟩ := settle_cut1 (w := w) (.slice (some ⟨nb, 0, none⟩) 2 2) (.int .u64 aClk) .nilIface (by simp) hO hK
      exact ⟨_, _, rfl, rfl, by rw [World.cell?_alloc_past _ _ _ (lt_of_cell hnc)]; exact hnc, by rw [World.cell?_alloc_past _ _ _ (lt_of_cell hnc2)]; exact hnc2, by have h := hnb; simp at h; omega, by have := lt_of_cell hnc; simp at this; omega, r1, r2, r3, r4⟩
    case rel =>
      obtain ⟨r2, r3, r4⟩ := settle_cut2 (w := w) (.slice (some ⟨nb, 0, none⟩) 2 2) (.int .u64 aClk) .nilIface (by simp) _ _ _ hO hK p4 p8 p12
      exact ⟨_, _, rfl, rfl, by have h := hnb; simp at h; rw [World.cell?_setCell_far _ _ _ _ (by simp; omega), World.cell?_setCell_far _ _ _ _ (by simp; omega), World.cell?_setCell_far _ _ _ _ (by simp; omega)]; exact hnc, by have h := hnb; simp at h; rw [World.cell?_setCell_far _ _ _ _ (by simp; omega), World.cell?_setCell_far _ _ _ _ (by simp; omega), World.cell?_setCell_far _ _ _ _ (by simp; omega)]; exact hnc2, by have h := hnb; simp at h; omega, by have h := hnb; simp at h; omega, by omega, r2, r3, r4⟩
  case rest =>
    obtain ⟨sb, nb, rfl, rfl, hn1, hm1, hn2, hn3, hsb, h1, h2, h3⟩ := hcut
    obtain ⟨hcc, hff⟩ := kcell h3
    have hi1 : wc.cell? ⟨ib, 0, none⟩ = some (.int .u8 ikey) := by
      rw [hcc ib 0 (by simp; omega) in1 in2 in3, World.cell?_alloc_past _ _ _ (by simp; omega), World.cell?_alloc_past _ _ _ (by simp; omega), World.cell?_alloc_past _ _ _ hibl]
      exact hibc
    have hE1 : wc.cell? ⟨0, 0, none⟩ = some (.iface ET (.pointer (some ea))) := by
      rw [hcc 0 0 (by simp) h0b.1 h0b.2.1 h0b.2.2, World.cell?_alloc_past _ _ _ (by simp), World.cell?_alloc_past _ _ _ (by simp), World.cell?_alloc_past _ _ _ hEl]
      exact hE
    have b0 := cell_of_heap h1 0
    have b1 := cell_of_heap h1 1
    have b2 := cell_of_heap h1 2
    have bf := free_of_heap h1
    simp at b0 b1 b2
    have bn : sb ≠ w.heap.size + 1 + 1 := by omega
    have bn' : w.heap.size + 1 + 1 ≠ sb := by omega
    have bn2 : sb ≠ w.heap.size := by omega
    have hbq := lt_of_heap h1
    have HH := hide (And.intro h2 h3)
    have hz : wc.heap[w.heap.size + 1 + 1]? = some (.cells #[.slice none 0 0, .int .u64 0, .nilIface] 58 (0, 0)) := by
      rw [h3.block _ (by simp) (by simp [p3, p7, p11])]
      have := heap_alloc_new' ((w.alloc (.cells #[.slice (some ⟨ib, 0, none⟩) 1 ic, .int .u64 iclk, .nilIface] 58)).alloc (.cells #[.slice (some ⟨xb, 0, none⟩) 1 xc, .int .u64 xclk, .nilIface] 58)) (.cells #[.slice none 0 0, .int .u64 0, .nilIface] 58)
      simpa using this
    have z0 := cell_of_heap hz 0
    have z1 := cell_of_heap hz 1
    have z2 := cell_of_heap hz 2
    have zf := free_of_heap hz
    simp at z0 z1 z2
    have HZ := hide hz
    have b3 : wc.cell? ⟨w.heap.size, 0, none⟩ = some (.slice (some ⟨ib, 0, none⟩) 1 ic) := by
      rw [hcc w.heap.size 0 (by simp; omega) p1 p5 p9, World.cell?_alloc_past _ _ _ (by simp; omega), World.cell?_alloc_past _ _ _ (by simp), World.cell?_alloc_new]
      rfl
    clear h1 h2 h3 g g3 g4 HA hcc hff hE hibc hz
    have x1 : w.heap.size + 1 + 1 ≠ nb := by omega
    have x3 := lt_of_cell hn1
    simp only [] at x3
    have x4 : 0 < wc.heap.size := by omega
    have x5 : w.heap.size + 1 + 1 < wc.heap.size := by omega
    have x2 : w.heap.size + 1 + 1 ≠ 0 := by omega
    have szs : ∀ v0 v1 v2, (((wc.setCell ⟨w.heap.size + 1 + 1, 0, none⟩ v0).setCell ⟨w.heap.size + 1 + 1, 1, none⟩ v1).setCell ⟨w.heap.size + 1 + 1, 2, none⟩ v2).heap.size = wc.heap.size := fun v0 v1 v2 => by rw [size_setCell, size_setCell, size_setCell]
    go_wp2_with (go_at_call 11; refine (beq21 nb 2 ib ic key ikey _ hn1 hm1 hi1).mono ?_; rintro e wd ⟨rfl, rfl⟩)
    go_cut [7, 8] (fun v7 v8 wx => ∃ eb g cap, v7 = .bool false ∧ v8 = .iface 99 (.pointer (some ⟨eb, 0, none⟩)) ∧ w.heap.size + 1 + 1 < eb ∧ wx.heap[w.heap.size + 1 + 1]? = some (.cells #[.slice none 0 0, .int .u64 0, .nilIface] 58 (0, 0)) ∧ wx.heap[eb]? = some (.cells #[.slice (some ⟨g, 0, none⟩) 2 cap, .iface ET (.pointer (some ea))] 103 (0, 0)) ∧ wx.cell? ⟨g, 0, none⟩ = some (.int .u8 key) ∧ wx.cell? ⟨g, 1, none⟩ = some (.int .u8 0) ∧ ArbOut wx cb go gc (q + 1) ib ic iclk xb xc xclk ∧ Kp [cb, go, gc] w wx)
    case first =>
      go_region_held3 (fun x => x.cell? ⟨sb, 0, none⟩ = some (.slice (some ⟨nb, 0, none⟩) 2 2) ∧ x.cell? ⟨0, 0, none⟩ = some (.iface ET (.pointer (some ea))) ∧ x.cell? ⟨nb, 0, none⟩ = some (.int .u8 key) ∧ x.cell? ⟨nb, 1, none⟩ = some (.int .u8 0)) (go_keep)
        ((go_at_call 26; refine (clone2 nb 2 key _ (by simp [*]) (by simp [*])).mono ?_; rintro e w1 ⟨g, cap, rfl, hg, hc0, hc1, hb⟩; obtain ⟨hcc2, hff2⟩ := bcellD hb; have y := below_sizeD hb; (try rw [szs] at y); have y5 : w.heap.size + 1 + 1 < w1.heap.size := by omega))
      all_goals (try go_wp2_with fail)
      all_goals go_meet
      case rel =>
        obtain ⟨r1, r2, r3, r4, r5, r6, r7⟩ := settle_cut5 (w := w) HH.out.1 ((((Kp.refl _ _).alloc _).alloc _).alloc _) HH.out.2 HZ.out hb hg hc0 hc1 p3 p7 p11 (.iface ET (.pointer (some ea))) cap
        exact ⟨_, _, _, rfl, rfl, r1, r2, r3, r4, r5, r6, r7⟩
      case rel =>
        obtain ⟨r1, r2, r3, r4, r5, r6, r7⟩ := settle_cut5 (w := w) HH.out.1 ((((Kp.refl _ _).alloc _).alloc _).alloc _) HH.out.2 HZ.out hb hg hc0 hc1 p3 p7 p11 (.iface ET (.pointer (some ea))) cap
        exact ⟨_, _, _, rfl, rfl, r1, r2, r3, r4, r5, r6, r7⟩
    case rest =>
      obtain ⟨eb, g, cap, rfl, rfl, r1, r2, r3, r4, r5, r6, r7⟩ := hcut
      have y0 := cell_of_heap r2 0
      have y1 := cell_of_heap r2 1
      have y2 := cell_of_heap r2 2
      simp at y0 y1 y2
      have HF := hide (And.intro r3 (And.intro r4 (And.intro r5 (And.intro r6 r7))))
      clear r2 r3 r4 r5 r6 r7
      go_wp2
      exact bodyPost_ret (v := .tuple #[.agg #[.slice none 0 0, .int .u64 0, .nilIface], .bool false, .iface 99 (.pointer (some ⟨eb, 0, none⟩))]) (by simp [results, Ybad.results23, go_sem, y0, y1, y2]) rfl ⟨⟨eb, g, cap, rfl, by omega, HF.out.1, HF.out.2.1, HF.out.2.2.1⟩, HF.out.2.2.2.1, HF.out.2.2.2.2⟩

end Go.Proofs.YbulkagdqDoor

import Derived.Test.YbulkagdqDoorT8
namespace Go.Proofs.YbulkagdqDoor
open Go.RowKit

theorem cell_of_heap {w : World} {b : Nat} {cs : Array Value} {t : TypeId} (h : w.heap[b]? = some (.cells cs t (0, 0))) (i : Nat) : w.cell? ⟨b, i, none⟩ = cs[i]? := by simp [World.cell?, h]
theorem free_of_heap {w : World} {b : Nat} {cs : Array Value} {t : TypeId} (h : w.heap[b]? = some (.cells cs t (0, 0))) (i : Nat) : w.frozen? ⟨b, i, none⟩ = false := by simp [World.frozen?, h]
theorem heap_set {w : World} {b i : Nat} {cs : Array Value} {t : TypeId} (h : w.heap[b]? = some (.cells cs t (0, 0))) (v : Value) : (w.setCell ⟨b, i, none⟩ v).heap[b]? = some (.cells (cs.setIfInBounds i v) t (0, 0)) := by
  simp [World.setCell, Array.getElem?_modify, h]
theorem heap_far {w : World} {b b' i : Nat} {o : Obj} (h : w.heap[b]? = some o) (v : Value) (hn : b ≠ b') : (w.setCell ⟨b', i, none⟩ v).heap[b]? = some o := by
  rw [Below.heap_setCell _ _ _ _ hn]; exact h
theorem heap_set3 {w : World} {b : Nat} {x0 x1 x2 : Value} {t : TypeId} (h : w.heap[b]? = some (.cells #[x0, x1, x2] t (0, 0))) (v0 v1 v2 : Value) : (((w.setCell ⟨b, 0, none⟩ v0).setCell ⟨b, 1, none⟩ v1).setCell ⟨b, 2, none⟩ v2).heap[b]? = some (.cells #[v0, v1, v2] t (0, 0)) := by
  have := heap_set (i := 2) (heap_set (i := 1) (heap_set (i := 0) h v0) v1) v2
  simpa using this

/-- The blocks that the law's closure captures. -/
structure ArbIn (w : World) (cb go gc mb kb ab : Nat) (q m : Int) (key : Nat) (aClk : Int) : Prop where
  h0 : w.heap[cb]? = some (.cells #[.int .i64 q] 3 (0, 0))
  h1 : ∃ x0 x1 x2, w.heap[go]? = some (.cells #[x0, x1, x2] 58 (0, 0))
  h2 : ∃ x0 x1 x2, w.heap[gc]? = some (.cells #[x0, x1, x2] 58 (0, 0))
  h3 : w.heap[mb]? = some (.cells #[.int .u8 m] 5 (0, 0))
  h4 : w.heap[kb]? = some (.cells #[.int .u8 key] 5 (0, 0))
  h5 : w.heap[ab]? = some (.cells #[.int .u64 aClk] 23 (0, 0))
  hne : go ≠ gc

/-- A contact as a value: an id of one byte, a clock, no data. -/
def conV (b c : Nat) (clk : Int) : Value := .agg #[.slice (some ⟨b, 0, none⟩) 1 c, .int .u64 clk, .nilIface]

theorem lts {x s : Nat} (h : x < s) : x < s + 1 ∧ x < s + 1 + 1 ∧ x < s + 1 + 1 + 1 := by omega

theorem heap_ne {w : World} {b b' : Nat} {cs cs' : Array Value} {t t' : TypeId} {m m' : Nat × Nat} (h : w.heap[b]? = some (.cells cs t m)) (h' : w.heap[b']? = some (.cells cs' t' m')) (ht : t ≠ t') : b ≠ b' := by
  intro e
  subst e
  rw [h] at h'
  simp at h'
  exact ht h'.2.1

/-- What the closure leaves in the blocks that it captured. -/
structure ArbOut (w : World) (cb go gc : Nat) (q : Int) (ib ic : Nat) (iclk : Int) (xb xc : Nat) (xclk : Int) : Prop where
  h0 : w.heap[cb]? = some (.cells #[.int .i64 q] 3 (0, 0))
  h1 : w.heap[go]? = some (.cells #[.slice (some ⟨ib, 0, none⟩) 1 ic, .int .u64 iclk, .nilIface] 58 (0, 0))
  h2 : w.heap[gc]? = some (.cells #[.slice (some ⟨xb, 0, none⟩) 1 xc, .int .u64 xclk, .nilIface] 58 (0, 0))
theorem ArbOut.kp {D : List Nat} {w w' : World} {cb go gc : Nat} {q : Int} {ib ic : Nat} {iclk : Int} {xb xc : Nat} {xclk : Int} (h : ArbOut w cb go gc q ib ic iclk xb xc xclk) (k : Kp D w w') (d0 : cb ∉ D) (d1 : go ∉ D) (d2 : gc ∉ D) : ArbOut w' cb go gc q ib ic iclk xb xc xclk :=
  ⟨(k.block cb (lt_of_heap h.h0) d0).trans h.h0, (k.block go (lt_of_heap h.h1) d1).trans h.h1, (k.block gc (lt_of_heap h.h2) d2).trans h.h2⟩

/-- The closure's seven stores. -/
def arbW (w : World) (cb go gc : Nat) (q : Int) (ib ic : Nat) (iclk : Int) (xb xc : Nat) (xclk : Int) : World :=
  ((((((w.setCell ⟨cb, 0, none⟩ (.int .i64 q)).setCell ⟨go, 0, none⟩ (.slice (some ⟨ib, 0, none⟩) 1 ic)).setCell ⟨go, 1, none⟩ (.int .u64 iclk)).setCell ⟨go, 2, none⟩ .nilIface).setCell ⟨gc, 0, none⟩ (.slice (some ⟨xb, 0, none⟩) 1 xc)).setCell ⟨gc, 1, none⟩ (.int .u64 xclk)).setCell ⟨gc, 2, none⟩ .nilIface
theorem arbW_kp (w : World) (cb go gc : Nat) (q : Int) (ib ic : Nat) (iclk : Int) (xb xc : Nat) (xclk : Int) : Kp [cb, go, gc] w (arbW w cb go gc q ib ic iclk xb xc xclk) :=
  (((((((Kp.refl _ w).setCell (by simp) _).setCell (by simp) _).setCell (by simp) _).setCell (by simp) _).setCell (by simp) _).setCell (by simp) _).setCell (by simp) _
theorem arbW_size (w : World) (cb go gc : Nat) (q : Int) (ib ic : Nat) (iclk : Int) (xb xc : Nat) (xclk : Int) : (arbW w cb go gc q ib ic iclk xb xc xclk).heap.size = w.heap.size := by simp [arbW, World.setCell]
theorem arbW_out {w : World} {cb go gc mb kb ab : Nat} {q m : Int} {key : Nat} {aClk : Int} (hA : ArbIn w cb go gc mb kb ab q m key aClk) (q' : Int) (ib ic : Nat) (iclk : Int) (xb xc : Nat) (xclk : Int) : ArbOut (arbW w cb go gc q' ib ic iclk xb xc xclk) cb go gc q' ib ic iclk xb xc xclk := by
  obtain ⟨h0, ⟨x0, x1, x2, h1⟩, ⟨y0, y1, y2, h2⟩, h3, h4, h5, hne⟩ := hA
  have n1 := heap_ne h0 h1 (by decide)
  have n2 := heap_ne h0 h2 (by decide)
  have g0 := heap_set (i := 0) h0 (.int .i64 q')
  simp at g0
  have g1 := heap_far (i := 0) (b' := cb) h1 (.int .i64 q') (Ne.symm n1)
  have g2 := heap_far (i := 0) (b' := cb) h2 (.int .i64 q') (Ne.symm n2)
  have k0 := heap_far (i := 2) (b' := go) (heap_far (i := 1) (b' := go) (heap_far (i := 0) (b' := go) g0 (.slice (some ⟨ib, 0, none⟩) 1 ic) n1) (.int .u64 iclk) n1) .nilIface n1
  have k1 := heap_set3 g1 (.slice (some ⟨ib, 0, none⟩) 1 ic) (.int .u64 iclk) .nilIface
  have k2 := heap_far (i := 2) (b' := go) (heap_far (i := 1) (b' := go) (heap_far (i := 0) (b' := go) g2 (.slice (some ⟨ib, 0, none⟩) 1 ic) (Ne.symm hne)) (.int .u64 iclk) (Ne.symm hne)) .nilIface (Ne.symm hne)
  refine ⟨?_, ?_, ?_⟩
  · exact heap_far (i := 2) (b' := gc) (heap_far (i := 1) (b' := gc) (heap_far (i := 0) (b' := gc) k0 (.slice (some ⟨xb, 0, none⟩) 1 xc) n2) (.int .u64 xclk) n2) .nilIface n2
  · exact heap_far (i := 2) (b' := gc) (heap_far (i := 1) (b' := gc) (heap_far (i := 0) (b' := gc) k1 (.slice (some ⟨xb, 0, none⟩) 1 xc) hne) (.int .u64 xclk) hne) .nilIface hne
  · exact heap_set3 k2 (.slice (some ⟨xb, 0, none⟩) 1 xc) (.int .u64 xclk) .nilIface
theorem ArbOut.of_kp0 {w w' : World} {cb go gc : Nat} {q : Int} {ib ic : Nat} {iclk : Int} {xb xc : Nat} {xclk : Int} (h : ArbOut w cb go gc q ib ic iclk xb xc xclk) (k : Kp [] w w') : ArbOut w' cb go gc q ib ic iclk xb xc xclk := h.kp k (by simp) (by simp) (by simp)

set_option maxRecDepth 100000 in
set_option maxHeartbeats 1000000 in
theorem arb8_0 (cb go gc mb kb ab : Nat) (q : Int) (key : Nat) (aClk : Int) (ib ic xb xc : Nat) (iclk xclk : Int) (w : World) (hA : ArbIn w cb go gc mb kb ab q 0 key aClk) (hq0 : 0 ≤ q) (hq1 : q ≤ 100) :
    Calls Ybad.prog 8 #[conV ib ic iclk, conV xb xc xclk, .pointer (some ⟨cb, 0, none⟩), .pointer (some ⟨go, 0, none⟩), .pointer (some ⟨gc, 0, none⟩), .pointer (some ⟨mb, 0, none⟩), .pointer (some ⟨kb, 0, none⟩), .pointer (some ⟨ab, 0, none⟩)] w fun e w' => (e = .returned (.tuple #[.agg #[.slice none 0 0, .int .u64 0, .nilIface], .bool false])) ∧ ArbOut w' cb go gc (q + 1) ib ic iclk xb xc xclk ∧ Kp [cb, go, gc] w w' := by
  have hOut := arbW_out hA (q + 1) ib ic iclk xb xc xclk
  have hKp := arbW_kp w cb go gc (q + 1) ib ic iclk xb xc xclk
  have hSz := arbW_size w cb go gc (q + 1) ib ic iclk xb xc xclk
  have H := hide (And.intro hOut (And.intro hKp hSz))
  clear hOut hKp hSz
  obtain ⟨h0, ⟨x0, x1, x2, h1⟩, ⟨y0, y1, y2, h2⟩, h3, h4, h5, hne⟩ := hA
  have l0 := lt_of_heap h0
  have l1 := lt_of_heap h1
  have l2 := lt_of_heap h2
  have l3 := lt_of_heap h3
  have l4 := lt_of_heap h4
  have l5 := lt_of_heap h5
  have n1 := heap_ne h0 h1 (by decide)
  have n2 := heap_ne h0 h2 (by decide)
  have n3 := heap_ne h0 h3 (by decide)
  have n4 := heap_ne h0 h4 (by decide)
  have n5 := heap_ne h0 h5 (by decide)
  have n6 := heap_ne h1 h3 (by decide)
  have n7 := heap_ne h1 h4 (by decide)
  have n8 := heap_ne h1 h5 (by decide)
  have n9 := heap_ne h2 h3 (by decide)
  have n10 := heap_ne h2 h4 (by decide)
  have n11 := heap_ne h2 h5 (by decide)
  have a0 := cell_of_heap h0 0
  have a1 := cell_of_heap h1 0
  have a2 := cell_of_heap h1 1
  have a3 := cell_of_heap h1 2
  have a4 := cell_of_heap h2 0
  have a5 := cell_of_heap h2 1
  have a6 := cell_of_heap h2 2
  have a7 := cell_of_heap h3 0
  have a8 := cell_of_heap h4 0
  have a9 := cell_of_heap h5 0
  have f0 := free_of_heap h0 0
  have f1 := free_of_heap h1
  have f2 := free_of_heap h2
  simp at a0 a1 a2 a3 a4 a5 a6 a7 a8 a9
  clear h0 h1 h2 h3 h4 h5
  obtain ⟨l0a, l0b, l0c⟩ := lts l0
  obtain ⟨l1a, l1b, l1c⟩ := lts l1
  obtain ⟨l2a, l2b, l2c⟩ := lts l2
  obtain ⟨l3a, l3b, l3c⟩ := lts l3
  obtain ⟨l4a, l4b, l4c⟩ := lts l4
  obtain ⟨l5a, l5b, l5c⟩ := lts l5
  unfold conV
  go_enter Ybad.func8, Ybad.ntmps8
  go_wp2
  refine bodyPost_ret (v := .tuple #[.agg #[.slice none 0 0, .int .u64 0, .nilIface], .bool false]) (by simp [results, Ybad.results8, go_sem]) rfl ⟨rfl, ?_⟩
  obtain ⟨hO, hK, hS⟩ := H.out
  exact ⟨hO.of_kp0 ((((Kp.refl _ _).alloc _).alloc _).alloc _), ((hK.alloc _).alloc _).alloc _⟩

set_option maxRecDepth 100000 in
set_option maxHeartbeats 1000000 in
theorem arb8_1 (cb go gc mb kb ab : Nat) (q : Int) (key : Nat) (aClk : Int) (ib ic xb xc : Nat) (iclk xclk : Int) (w : World) (hA : ArbIn w cb go gc mb kb ab q 1 key aClk) (hq0 : 0 ≤ q) (hq1 : q ≤ 100) :
    Calls Ybad.prog 8 #[conV ib ic iclk, conV xb xc xclk, .pointer (some ⟨cb, 0, none⟩), .pointer (some ⟨go, 0, none⟩), .pointer (some ⟨gc, 0, none⟩), .pointer (some ⟨mb, 0, none⟩), .pointer (some ⟨kb, 0, none⟩), .pointer (some ⟨ab, 0, none⟩)] w fun e w' => (∃ nb, e = .returned (.tuple #[.agg #[.slice (some ⟨nb, 0, none⟩) 1 1, .int .u64 aClk, .nilIface], .bool true]) ∧ w.heap.size ≤ nb ∧ w'.cell? ⟨nb, 0, none⟩ = some (.int .u8 key)) ∧ ArbOut w' cb go gc (q + 1) ib ic iclk xb xc xclk ∧ Kp [cb, go, gc] w w' := by
  have hOut := arbW_out hA (q + 1) ib ic iclk xb xc xclk
  have hKp := arbW_kp w cb go gc (q + 1) ib ic iclk xb xc xclk
  have hSz := arbW_size w cb go gc (q + 1) ib ic iclk xb xc xclk
  have H := hide (And.intro hOut (And.intro hKp hSz))
  clear hOut hKp hSz
  obtain ⟨h0, ⟨x0, x1, x2, h1⟩, ⟨y0, y1, y2, h2⟩, h3, h4, h5, hne⟩ := hA
  have l0 := lt_of_heap h0
  have l1 := lt_of_heap h1
  have l2 := lt_of_heap h2
  have l3 := lt_of_heap h3
  have l4 := lt_of_heap h4
  have l5 := lt_of_heap h5
  have n1 := heap_ne h0 h1 (by decide)
  have n2 := heap_ne h0 h2 (by decide)
  have n3 := heap_ne h0 h3 (by decide)
  have n4 := heap_ne h0 h4 (by decide)
  have n5 := heap_ne h0 h5 (by decide)
  have n6 := heap_ne h1 h3 (by decide)
  have n7 := heap_ne h1 h4 (by decide)
  have n8 := heap_ne h1 h5 (by decide)
  have n9 := heap_ne h2 h3 (by decide)
  have n10 := heap_ne h2 h4 (by decide)
  have n11 := heap_ne h2 h5 (by decide)
  have a0 := cell_of_heap h0 0
  have a1 := cell_of_heap h1 0
  have a2 := cell_of_heap h1 1
  have a3 := cell_of_heap h1 2
  have a4 := cell_of_heap h2 0
  have a5 := cell_of_heap h2 1
  have a6 := cell_of_heap h2 2
  have a7 := cell_of_heap h3 0
  have a8 := cell_of_heap h4 0
  have a9 := cell_of_heap h5 0
  have f0 := free_of_heap h0 0
  have f1 := free_of_heap h1
  have f2 := free_of_heap h2
  simp at a0 a1 a2 a3 a4 a5 a6 a7 a8 a9
  clear h0 h1 h2 h3 h4 h5
  obtain ⟨l0a, l0b, l0c⟩ := lts l0
  obtain ⟨l1a, l1b, l1c⟩ := lts l1
  obtain ⟨l2a, l2b, l2c⟩ := lts l2
  obtain ⟨l3a, l3b, l3c⟩ := lts l3
  obtain ⟨l4a, l4b, l4c⟩ := lts l4
  obtain ⟨l5a, l5b, l5c⟩ := lts l5
  unfold conV
  go_enter Ybad.func8, Ybad.ntmps8
  go_wp2
  refine bodyPost_ret (v := .tuple #[.agg #[.slice (some ⟨w.heap.size + 1 + 1 + 1, 0, none⟩) 1 1, .int .u64 aClk, .nilIface], .bool true]) (by simp [results, Ybad.results8, go_sem]) rfl ⟨⟨_, rfl, ?_⟩, ?_⟩
  · exact ⟨by omega, by rw [World.cell?_alloc_at _ _ _ _ (by simp [World.setCell])]; rfl⟩
  obtain ⟨hO, hK, hS⟩ := H.out
  exact ⟨hO.of_kp0 (((((Kp.refl _ _).alloc _).alloc _).alloc _).alloc _), (((hK.alloc _).alloc _).alloc _).alloc _⟩

set_option maxRecDepth 100000 in
set_option maxHeartbeats 1000000 in
theorem arb8_2 (cb go gc mb kb ab : Nat) (q : Int) (key : Nat) (aClk : Int) (ib ic xb xc : Nat) (iclk xclk : Int) (w : World) (hA : ArbIn w cb go gc mb kb ab q 2 key aClk) (hq0 : 0 ≤ q) (hq1 : q ≤ 100) :
    Calls Ybad.prog 8 #[conV ib ic iclk, conV xb xc xclk, .pointer (some ⟨cb, 0, none⟩), .pointer (some ⟨go, 0, none⟩), .pointer (some ⟨gc, 0, none⟩), .pointer (some ⟨mb, 0, none⟩), .pointer (some ⟨kb, 0, none⟩), .pointer (some ⟨ab, 0, none⟩)] w fun e w' => (∃ nb, e = .returned (.tuple #[.agg #[.slice (some ⟨nb, 0, none⟩) 2 2, .int .u64 aClk, .nilIface], .bool true]) ∧ w.heap.size ≤ nb ∧ w'.cell? ⟨nb, 0, none⟩ = some (.int .u8 key) ∧ w'.cell? ⟨nb, 1, none⟩ = some (.int .u8 0)) ∧ ArbOut w' cb go gc (q + 1) ib ic iclk xb xc xclk ∧ Kp [cb, go, gc] w w' := by
  have hOut := arbW_out hA (q + 1) ib ic iclk xb xc xclk
  have hKp := arbW_kp w cb go gc (q + 1) ib ic iclk xb xc xclk
  have hSz := arbW_size w cb go gc (q + 1) ib ic iclk xb xc xclk
  have H := hide (And.intro hOut (And.intro hKp hSz))
  clear hOut hKp hSz
  obtain ⟨h0, ⟨x0, x1, x2, h1⟩, ⟨y0, y1, y2, h2⟩, h3, h4, h5, hne⟩ := hA
  have l0 := lt_of_heap h0
  have l1 := lt_of_heap h1
  have l2 := lt_of_heap h2
  have l3 := lt_of_heap h3
  have l4 := lt_of_heap h4
  have l5 := lt_of_heap h5
  have n1 := heap_ne h0 h1 (by decide)
  have n2 := heap_ne h0 h2 (by decide)
  have n3 := heap_ne h0 h3 (by decide)
  have n4 := heap_ne h0 h4 (by decide)
  have n5 := heap_ne h0 h5 (by decide)
  have n6 := heap_ne h1 h3 (by decide)
  have n7 := heap_ne h1 h4 (by decide)
  have n8 := heap_ne h1 h5 (by decide)
  have n9 := heap_ne h2 h3 (by decide)
  have n10 := heap_ne h2 h4 (by decide)
  have n11 := heap_ne h2 h5 (by decide)
  have a0 := cell_of_heap h0 0
  have a1 := cell_of_heap h1 0
  have a2 := cell_of_heap h1 1
  have a3 := cell_of_heap h1 2
  have a4 := cell_of_heap h2 0
  have a5 := cell_of_heap h2 1
  have a6 := cell_of_heap h2 2
  have a7 := cell_of_heap h3 0
  have a8 := cell_of_heap h4 0
  have a9 := cell_of_heap h5 0
  have f0 := free_of_heap h0 0
  have f1 := free_of_heap h1
  have f2 := free_of_heap h2
  simp at a0 a1 a2 a3 a4 a5 a6 a7 a8 a9
  clear h0 h1 h2 h3 h4 h5
  obtain ⟨l0a, l0b, l0c⟩ := lts l0
  obtain ⟨l1a, l1b, l1c⟩ := lts l1
  obtain ⟨l2a, l2b, l2c⟩ := lts l2
  obtain ⟨l3a, l3b, l3c⟩ := lts l3
  obtain ⟨l4a, l4b, l4c⟩ := lts l4
  obtain ⟨l5a, l5b, l5c⟩ := lts l5
  unfold conV
  go_enter Ybad.func8, Ybad.ntmps8
  go_wp2
  refine bodyPost_ret (v := .tuple #[.agg #[.slice (some ⟨w.heap.size + 1 + 1 + 1, 0, none⟩) 2 2, .int .u64 aClk, .nilIface], .bool true]) (by simp [results, Ybad.results8, go_sem]) rfl ⟨⟨_, rfl, ?_⟩, ?_⟩
  · exact ⟨by omega, by rw [World.cell?_alloc_at _ _ _ _ (by simp [World.setCell])]; rfl, by rw [World.cell?_alloc_at _ _ _ _ (by simp [World.setCell])]; rfl⟩
  obtain ⟨hO, hK, hS⟩ := H.out
  exact ⟨hO.of_kp0 (((((Kp.refl _ _).alloc _).alloc _).alloc _).alloc _), (((hK.alloc _).alloc _).alloc _).alloc _⟩

end Go.Proofs.YbulkagdqDoor

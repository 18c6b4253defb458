import Derived.Test.YbulkagdqDoorVe
namespace Go.Proofs.YbulkagdqDoor
open Go.RowKit
set_option linter.unusedVariables false

set_option maxRecDepth 100000 in
set_option maxHeartbeats 1000000 in
theorem arb16_0 (cb go gc mb kb ab : Nat) (q : Int) (key : Nat) (aClk : Int) (ib ic xb xc : Nat) (iclk xclk : Int) (w : World) (hA : ArbIn w cb go gc mb kb ab q 0 key aClk) (hq0 : 0 ≤ q) (hq1 : q ≤ 100) :
    Calls Ybad.prog 16 #[conV ib ic iclk, conV xb xc xclk, .pointer (some ⟨cb, 0, none⟩), .pointer (some ⟨go, 0, none⟩), .pointer (some ⟨gc, 0, none⟩), .pointer (some ⟨mb, 0, none⟩), .pointer (some ⟨kb, 0, none⟩), .pointer (some ⟨ab, 0, none⟩)] w fun e w' => (e = .returned (.tuple #[.agg #[.slice none 0 0, .int .u64 0, .nilIface], .bool false])) ∧ ArbOut w' cb go gc (q + 1) ib ic iclk xb xc xclk ∧ Kp [cb, go, gc] w w' := by
  have hOut := arbW_out hA (q + 1) ib ic iclk xb xc xclk
  have hKp := arbW_kp w cb go gc (q + 1) ib ic iclk xb xc xclk
  have hSz := arbW_size w cb go gc (q + 1) ib ic iclk xb xc xclk
  have H := hide (And.intro hOut (And.intro hKp hSz))
  clear hOut hKp hSz
  obtain ⟨h0, ⟨x0, x1, x2, h1⟩, ⟨y0, y1, y2, h2⟩, h3, h4, h5, hne⟩ := hA
  have l0 := lt_of_heap h0
  have l1 := lt_of_heap h1
  have l2 := lt_of_heap h2
  have l3 := lt_of_heap h3
  have l4 := lt_of_heap h4
  have l5 := lt_of_heap h5
  have n1 := heap_ne h0 h1 (by decide)
  have n2 := heap_ne h0 h2 (by decide)
  have n3 := heap_ne h0 h3 (by decide)
  have n4 := heap_ne h0 h4 (by decide)
  have n5 := heap_ne h0 h5 (by decide)
  have n6 := heap_ne h1 h3 (by decide)
  have n7 := heap_ne h1 h4 (by decide)
  have n8 := heap_ne h1 h5 (by decide)
  have n9 := heap_ne h2 h3 (by decide)
  have n10 := heap_ne h2 h4 (by decide)
  have n11 := heap_ne h2 h5 (by decide)
  have a0 := cell_of_heap h0 0
  have a1 := cell_of_heap h1 0
  have a2 := cell_of_heap h1 1
  have a3 := cell_of_heap h1 2
  have a4 := cell_of_heap h2 0
  have a5 := cell_of_heap h2 1
  have a6 := cell_of_heap h2 2
  have a7 := cell_of_heap h3 0
  have a8 := cell_of_heap h4 0
  have a9 := cell_of_heap h5 0
  have f0 := free_of_heap h0 0
  have f1 := free_of_heap h1
  have f2 := free_of_heap h2
  simp at a0 a1 a2 a3 a4 a5 a6 a7 a8 a9
  clear h0 h1 h2 h3 h4 h5
  obtain ⟨l0a, l0b, l0c⟩ := lts l0
  obtain ⟨l1a, l1b, l1c⟩ := lts l1
  obtain ⟨l2a, l2b, l2c⟩ := lts l2
  obtain ⟨l3a, l3b, l3c⟩ := lts l3
  obtain ⟨l4a, l4b, l4c⟩ := lts l4
  obtain ⟨l5a, l5b, l5c⟩ := lts l5
  unfold conV
  go_enter Ybad.func16, Ybad.ntmps16
  go_wp2
  refine bodyPost_ret (v := .tuple #[.agg #[.slice none 0 0, .int .u64 0, .nilIface], .bool false]) (by simp [results, Ybad.results16, go_sem]) rfl ⟨rfl, ?_⟩
  obtain ⟨hO, hK, hS⟩ := H.out
  exact ⟨hO.of_kp0 ((((Kp.refl _ _).alloc _).alloc _).alloc _), ((hK.alloc _).alloc _).alloc _⟩

set_option maxRecDepth 100000 in
set_option maxHeartbeats 1000000 in
theorem arb16_1 (cb go gc mb kb ab : Nat) (q : Int) (key : Nat) (aClk : Int) (ib ic xb xc : Nat) (iclk xclk : Int) (w : World) (hA : ArbIn w cb go gc mb kb ab q 1 key aClk) (hq0 : 0 ≤ q) (hq1 : q ≤ 100) :
    Calls Ybad.prog 16 #[conV ib ic iclk, conV xb xc xclk, .pointer (some ⟨cb, 0, none⟩), .pointer (some ⟨go, 0, none⟩), .pointer (some ⟨gc, 0, none⟩), .pointer (some ⟨mb, 0, none⟩), .pointer (some ⟨kb, 0, none⟩), .pointer (some ⟨ab, 0, none⟩)] w fun e w' => (∃ nb, e = .returned (.tuple #[.agg #[.slice (some ⟨nb, 0, none⟩) 1 1, .int .u64 aClk, .nilIface], .bool true]) ∧ w.heap.size ≤ nb ∧ w'.cell? ⟨nb, 0, none⟩ = some (.int .u8 key)) ∧ ArbOut w' cb go gc (q + 1) ib ic iclk xb xc xclk ∧ Kp [cb, go, gc] w w' := by
  have hOut := arbW_out hA (q + 1) ib ic iclk xb xc xclk
  have hKp := arbW_kp w cb go gc (q + 1) ib ic iclk xb xc xclk
  have hSz := arbW_size w cb go gc (q + 1) ib ic iclk xb xc xclk
  have H := hide (And.intro hOut (And.intro hKp hSz))
  clear hOut hKp hSz
  obtain ⟨h0, ⟨x0, x1, x2, h1⟩, ⟨y0, y1, y2, h2⟩, h3, h4, h5, hne⟩ := hA
  have l0 := lt_of_heap h0
  have l1 := lt_of_heap h1
  have l2 := lt_of_heap h2
  have l3 := lt_of_heap h3
  have l4 := lt_of_heap h4
  have l5 := lt_of_heap h5
  have n1 := heap_ne h0 h1 (by decide)
  have n2 := heap_ne h0 h2 (by decide)
  have n3 := heap_ne h0 h3 (by decide)
  have n4 := heap_ne h0 h4 (by decide)
  have n5 := heap_ne h0 h5 (by decide)
  have n6 := heap_ne h1 h3 (by decide)
  have n7 := heap_ne h1 h4 (by decide)
  have n8 := heap_ne h1 h5 (by decide)
  have n9 := heap_ne h2 h3 (by decide)
  have n10 := heap_ne h2 h4 (by decide)
  have n11 := heap_ne h2 h5 (by decide)
  have a0 := cell_of_heap h0 0
  have a1 := cell_of_heap h1 0
  have a2 := cell_of_heap h1 1
  have a3 := cell_of_heap h1 2
  have a4 := cell_of_heap h2 0
  have a5 := cell_of_heap h2 1
  have a6 := cell_of_heap h2 2
  have a7 := cell_of_heap h3 0
  have a8 := cell_of_heap h4 0
  have a9 := cell_of_heap h5 0
  have f0 := free_of_heap h0 0
  have f1 := free_of_heap h1
  have f2 := free_of_heap h2
  simp at a0 a1 a2 a3 a4 a5 a6 a7 a8 a9
  clear h0 h1 h2 h3 h4 h5
  obtain ⟨l0a, l0b, l0c⟩ := lts l0
  obtain ⟨l1a, l1b, l1c⟩ := lts l1
  obtain ⟨l2a, l2b, l2c⟩ := lts l2
  obtain ⟨l3a, l3b, l3c⟩ := lts l3
  obtain ⟨l4a, l4b, l4c⟩ := lts l4
  obtain ⟨l5a, l5b, l5c⟩ := lts l5
  unfold conV
  go_enter Ybad.func16, Ybad.ntmps16
  go_wp2
  refine bodyPost_ret (v := .tuple #[.agg #[.slice (some ⟨w.heap.size + 1 + 1 + 1, 0, none⟩) 1 1, .int .u64 aClk, .nilIface], .bool true]) (by simp [results, Ybad.results16, go_sem]) rfl ⟨⟨_, rfl, ?_⟩, ?_⟩
  · exact ⟨by omega, by rw [World.cell?_alloc_at _ _ _ _ (by simp [World.setCell])]; rfl⟩
  obtain ⟨hO, hK, hS⟩ := H.out
  exact ⟨hO.of_kp0 (((((Kp.refl _ _).alloc _).alloc _).alloc _).alloc _), (((hK.alloc _).alloc _).alloc _).alloc _⟩

set_option maxRecDepth 100000 in
set_option maxHeartbeats 1000000 in
theorem arb16_2 (cb go gc mb kb ab : Nat) (q : Int) (key : Nat) (aClk : Int) (ib ic xb xc : Nat) (iclk xclk : Int) (w : World) (hA : ArbIn w cb go gc mb kb ab q 2 key aClk) (hq0 : 0 ≤ q) (hq1 : q ≤ 100) :
    Calls Ybad.prog 16 #[conV ib ic iclk, conV xb xc xclk, .pointer (some ⟨cb, 0, none⟩), .pointer (some ⟨go, 0, none⟩), .pointer (some ⟨gc, 0, none⟩), .pointer (some ⟨mb, 0, none⟩), .pointer (some ⟨kb, 0, none⟩), .pointer (some ⟨ab, 0, none⟩)] w fun e w' => (∃ nb, e = .returned (.tuple #[.agg #[.slice (some ⟨nb, 0, none⟩) 2 2, .int .u64 aClk, .nilIface], .bool true]) ∧ w.heap.size ≤ nb ∧ w'.cell? ⟨nb, 0, none⟩ = some (.int .u8 key) ∧ w'.cell? ⟨nb, 1, none⟩ = some (.int .u8 0)) ∧ ArbOut w' cb go gc (q + 1) ib ic iclk xb xc xclk ∧ Kp [cb, go, gc] w w' := by
  have hOut := arbW_out hA (q + 1) ib ic iclk xb xc xclk
  have hKp := arbW_kp w cb go gc (q + 1) ib ic iclk xb xc xclk
  have hSz := arbW_size w cb go gc (q + 1) ib ic iclk xb xc xclk
  have H := hide (And.intro hOut (And.intro hKp hSz))
  clear hOut hKp hSz
  obtain ⟨h0, ⟨x0, x1, x2, h1⟩, ⟨y0, y1, y2, h2⟩, h3, h4, h5, hne⟩ := hA
  have l0 := lt_of_heap h0
  have l1 := lt_of_heap h1
  have l2 := lt_of_heap h2
  have l3 := lt_of_heap h3
  have l4 := lt_of_heap h4
  have l5 := lt_of_heap h5
  have n1 := heap_ne h0 h1 (by decide)
  have n2 := heap_ne h0 h2 (by decide)
  have n3 := heap_ne h0 h3 (by decide)
  have n4 := heap_ne h0 h4 (by decide)
  have n5 := heap_ne h0 h5 (by decide)
  have n6 := heap_ne h1 h3 (by decide)
  have n7 := heap_ne h1 h4 (by decide)
  have n8 := heap_ne h1 h5 (by decide)
  have n9 := heap_ne h2 h3 (by decide)
  have n10 := heap_ne h2 h4 (by decide)
  have n11 := heap_ne h2 h5 (by decide)
  have a0 := cell_of_heap h0 0
  have a1 := cell_of_heap h1 0
  have a2 := cell_of_heap h1 1
  have a3 := cell_of_heap h1 2
  have a4 := cell_of_heap h2 0
  have a5 := cell_of_heap h2 1
  have a6 := cell_of_heap h2 2
  have a7 := cell_of_heap h3 0
  have a8 := cell_of_heap h4 0
  have a9 := cell_of_heap h5 0
  have f0 := free_of_heap h0 0
  have f1 := free_of_heap h1
  have f2 := free_of_heap h2
  simp at a0 a1 a2 a3 a4 a5 a6 a7 a8 a9
  clear h0 h1 h2 h3 h4 h5
  obtain ⟨l0a, l0b, l0c⟩ := lts l0
  obtain ⟨l1a, l1b, l1c⟩ := lts l1
  obtain ⟨l2a, l2b, l2c⟩ := lts l2
  obtain ⟨l3a, l3b, l3c⟩ := lts l3
  obtain ⟨l4a, l4b, l4c⟩ := lts l4
  obtain ⟨l5a, l5b, l5c⟩ := lts l5
  unfold conV
  go_enter Ybad.func16, Ybad.ntmps16
  go_wp2
  refine bodyPost_ret (v := .tuple #[.agg #[.slice (some ⟨w.heap.size + 1 + 1 + 1, 0, none⟩) 2 2, .int .u64 aClk, .nilIface], .bool true]) (by simp [results, Ybad.results16, go_sem]) rfl ⟨⟨_, rfl, ?_⟩, ?_⟩
  · exact ⟨by omega, by rw [World.cell?_alloc_at _ _ _ _ (by simp [World.setCell])]; rfl, by rw [World.cell?_alloc_at _ _ _ _ (by simp [World.setCell])]; rfl⟩
  obtain ⟨hO, hK, hS⟩ := H.out
  exact ⟨hO.of_kp0 (((((Kp.refl _ _).alloc _).alloc _).alloc _).alloc _), (((hK.alloc _).alloc _).alloc _).alloc _⟩


end Go.Proofs.YbulkagdqDoor

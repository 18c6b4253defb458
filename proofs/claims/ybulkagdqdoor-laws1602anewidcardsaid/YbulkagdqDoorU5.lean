import Derived.Test.YbulkagdqDoorU4
namespace Go.Proofs.YbulkagdqDoor
open Go.RowKit
set_option linter.unusedVariables false

theorem Ybad.cmp142 : (Ybad.prog.info? 142).map (fun i => i.comparable) = some true := by kernel_rfl
theorem Ybad.inf172 : (Ybad.prog.info? 172).map (fun i => i.size) = some 1 := by kernel_rfl

set_option maxRecDepth 100000 in
set_option maxHeartbeats 1000000 in
theorem arbiterr_hit (eb gg cp key : Nat) (ea : Addr) (w : World) (hk : key < 256) (h1 : w.heap[eb]? = some (.cells #[.slice (some ⟨gg, 0, none⟩) 2 cp, .iface 142 (.pointer (some ea))] 103 (0, 0))) (h2 : w.cell? ⟨gg, 0, none⟩ = some (.int .u8 key)) (h3 : w.cell? ⟨gg, 1, none⟩ = some (.int .u8 0))
    (hE : w.cell? ⟨0, 0, none⟩ = some (.iface 142 (.pointer (some ea)))) (hG : w.cell? ⟨1, 0, none⟩ = some (.iface 129 (.agg #[.pointer (some ⟨2, 77, none⟩)]))) :
    Calls Ybad.prog 12 #[.iface 99 (.pointer (some ⟨eb, 0, none⟩)), .int .u8 key] w fun e w' => e = .returned (.bool true) ∧ Below w.heap.size w w' := by
  have l1 := lt_of_heap h1
  have l2 := lt_of_cell h2
  have l3 := lt_of_cell hG
  simp only [] at l2 l3
  obtain ⟨ii, hii, hic⟩ := Option.map_eq_some_iff.1 Ybad.cmp142
  obtain ⟨jj, hjj, _⟩ := Option.map_eq_some_iff.1 Ybad.inf172
  have heq := fun wx => run_eql_iface_ptr_same (P := Ybad.prog) (w := wx) (ti := 77) (tp := 142) ea Ybad.underlying77 Ybad.underlying142 hii hic hjj
  clear hii hic hjj
  have HEQ := hide heq
  clear heq
  go_enter Ybad.func12, Ybad.ntmps12
  go_wp2_with (go_at_call 29; refine (as_hit _ _ (.pointer none) _ (by rw [World.cell?_alloc_past _ _ _ l3]; exact hG) (by simp) (by simp)).mono ?_; rintro e w' ⟨rfl, rfl⟩)
  have hB : Below w.heap.size w (((((w.alloc (.cells #[.pointer (some ⟨eb, 0, none⟩)] 99)).alloc (.cells #[.pointer (some ⟨w.heap.size, 0, none⟩)] 101)).alloc (.cells #[.pointer (some ⟨2, 101, none⟩), .pointer (some ⟨w.heap.size + 1, 0, none⟩), .int .u64 150] 118)).alloc (.cells #[.pointer (some ⟨2, 101, none⟩), .pointer (some ⟨w.heap.size + 1, 0, none⟩), .int .u64 150] 118)).alloc (.cells #[.pointer (some ⟨eb, 0, none⟩)] 99)) := below_al (below_al (below_al (below_al (below_al (Below.refl _ _) _) _) _) _) _
  have g0 : (((((w.alloc (.cells #[.pointer (some ⟨eb, 0, none⟩)] 99)).alloc (.cells #[.pointer (some ⟨w.heap.size, 0, none⟩)] 101)).alloc (.cells #[.pointer (some ⟨2, 101, none⟩), .pointer (some ⟨w.heap.size + 1, 0, none⟩), .int .u64 150] 118)).alloc (.cells #[.pointer (some ⟨2, 101, none⟩), .pointer (some ⟨w.heap.size + 1, 0, none⟩), .int .u64 150] 118)).alloc (.cells #[.pointer (some ⟨eb, 0, none⟩)] 99)).cell? ⟨w.heap.size, 0, none⟩ = some (.pointer (some ⟨eb, 0, none⟩)) := by
    rw [World.cell?_alloc_past _ _ _ (by simp; omega), World.cell?_alloc_past _ _ _ (by simp; omega), World.cell?_alloc_past _ _ _ (by simp; omega), World.cell?_alloc_past _ _ _ (by simp), World.cell?_alloc_new]; rfl
  have g1 := (hB.cell (p := ⟨eb, 0, none⟩) l1).trans (cell_of_heap h1 0)
  have g2 := (hB.cell (p := ⟨eb, 1, none⟩) l1).trans (cell_of_heap h1 1)
  have g3 := (hB.cell (p := ⟨gg, 0, none⟩) l2).trans h2
  have g4 := (hB.cell (p := ⟨gg, 1, none⟩) l2).trans h3
  have g5 := (hB.cell (p := ⟨0, 0, none⟩) (by simp; omega)).trans hE
  have heq := unhide HEQ
  simp at g1 g2
  clear h1 h2 h3 hE hG HEQ
  generalize (((((w.alloc (.cells #[.pointer (some ⟨eb, 0, none⟩)] 99)).alloc (.cells #[.pointer (some ⟨w.heap.size, 0, none⟩)] 101)).alloc (.cells #[.pointer (some ⟨2, 101, none⟩), .pointer (some ⟨w.heap.size + 1, 0, none⟩), .int .u64 150] 118)).alloc (.cells #[.pointer (some ⟨2, 101, none⟩), .pointer (some ⟨w.heap.size + 1, 0, none⟩), .int .u64 150] 118)).alloc (.cells #[.pointer (some ⟨eb, 0, none⟩)] 99)) = W at *
  have HB := hide hB
  clear hB
  have l5 := lt_of_cell g3
  simp only [] at l5
  go_region_held3 (fun x => x.cell? ⟨w.heap.size, 0, none⟩ = some (.pointer (some ⟨eb, 0, none⟩)) ∧ x.cell? ⟨eb, 0, none⟩ = some (.slice (some ⟨gg, 0, none⟩) 2 cp) ∧ x.cell? ⟨eb, 1, none⟩ = some (.iface 142 (.pointer (some ea))) ∧ x.cell? ⟨gg, 0, none⟩ = some (.int .u8 key) ∧ x.cell? ⟨gg, 1, none⟩ = some (.int .u8 0) ∧ x.cell? ⟨0, 0, none⟩ = some (.iface 142 (.pointer (some ea)))) (go_keep)
    ((go_at_call 11; refine (beq22 gg cp W.heap.size 2 key _ (by simp [*]) (by simp [*]) (by simp) (by simp)).mono ?_; rintro e w' ⟨rfl, rfl⟩))
  go_wp2
  go_ret
  exact ⟨rfl, (below_al (unhide HB) _).drew⟩

end Go.Proofs.YbulkagdqDoor

import Derived.Test.YbulkagdqDoorNe
import Derived.BigQuiet
namespace Go.Proofs.YbulkagdqDoor
open Go.RowKit
set_option linter.unusedVariables false
set_option maxRecDepth 100000

theorem eqs_nil (w : World) : (binOp .eql 73 (.slice none 0 0) (.slice none 0 0)).run Ybad.prog w = .ok (.bool true) w := by kernel_rfl

theorem rcheck_no (p : Int) (r : Value) (w : World) :
    Calls Ybad.prog 18 #[outOld (.slice none 0 0), .bool false, .int .i64 p, r] w fun e w' => e = .returned (.bool true) ∧ Below w.heap.size w w' := by
  have k1 := eqs_nil
  unfold outOld
  go_enter Ybad.func18, Ybad.ntmps18
  go_wp2
  go_ret
  exact ⟨rfl, (Below.refl _ _).alloc (Nat.le_refl _) _⟩

/-- A slice of contacts that can be read, the ids with them. -/
def ConsAt (w : World) (g : Nat) (l : List Ent) : Prop :=
  g < w.heap.size ∧ ∀ j (h : j < l.length), w.cell? ⟨g, j * 3, none⟩ = some (.slice (some ⟨l[j].blk, 0, none⟩) 1 l[j].cap) ∧ w.cell? ⟨g, j * 3 + 1, none⟩ = some (.int .u64 l[j].clk) ∧ w.cell? ⟨g, j * 3 + 2, none⟩ = some .nilIface ∧ IdAt w l[j].blk l[j].cap l[j].key

set_option maxHeartbeats 1000000 in
theorem rcheck_yes (p n m g c' : Nat) (a' : Option Addr) (es : List Ent) (l : List Rec) (w : World) (hm : min p n = m) (hn2 : n ≤ 1024) (hl : l.length = n) (hel : es.map Ent.toRec = l) (hc : ConsAt w g (es.take m)) (hr : RecsAt w a' l) :
    Calls Ybad.prog 18 #[outOld (.slice (some ⟨g, 0, none⟩) m m), .bool true, .int .i64 (p : Int), .slice a' n c'] w fun e w' => e = .returned (.bool true) ∧ Below w.heap.size w w' := by
  have helen : es.length = n := by rw [← hl, ← hel]; simp
  have hmn : m ≤ n := by omega
  unfold outOld
  have hb0 := (Below.refl w.heap.size w).alloc (Nat.le_refl _) (.cells #[.slice none 0 0, .int .u64 0, .nilIface, .bool false, .bool false, .slice none 0 0, .int .u64 0, .nilIface, .slice (some ⟨g, 0, none⟩) m m] 75)
  have z0 := heap_alloc_new' w (.cells #[.slice none 0 0, .int .u64 0, .nilIface, .bool false, .bool false, .slice none 0 0, .int .u64 0, .nilIface, .slice (some ⟨g, 0, none⟩) m m] 75)
  go_enter Ybad.func18, Ybad.ntmps18
  go_upto_region 3 with fail
  generalize w.alloc (.cells #[.slice none 0 0, .int .u64 0, .nilIface, .bool false, .bool false, .slice none 0 0, .int .u64 0, .nilIface, .slice (some ⟨g, 0, none⟩) m m] 75) = W0 at hb0 z0 ⊢
  have z8 : W0.cell? ⟨w.heap.size, 8, none⟩ = some (.slice (some ⟨g, 0, none⟩) m m) := (cell_of_heap z0 8).trans rfl
  have zlt := lt_of_heap z0
  go_upto_region 4 with fail
  have hmin : (if n < p then (n : Int) else (p : Int)) = (m : Int) := by split <;> omega
  rw [hmin]
  have hmm : ((m : Int) != (m : Int)) = false := by simp
  have HR := hide hr
  have HC := hide hc
  have HB0 := hide hb0
  clear hr hc hmin hb0
  go_upto_region 7 with fail
  go_loopw [10] (fun i wr => ∃ (k : Nat), k ≤ m ∧ i = .int .i64 k ∧ Below W0.heap.size W0 wr) (fun i _ => m - (intOf i).toNat)
  case atStart => exact ⟨0, Nat.zero_le _, rfl, Below.refl _ _⟩
  case round =>
    obtain ⟨k, hk, rfl, hbl⟩ := hrel
    by_cases hlt : k < m
    · have hlt' : (k : Int) < (m : Int) := by omega
      have hltn : (k : Int) < (n : Int) := by omega
      obtain ⟨b', off', rfl, hb', hrc⟩ := HR.out (by omega)
      have hs0 := HB0.out.size
      have q := (hrc k (by omega)).of_block ((hbl.block b' (by omega)).trans (HB0.out.block b' hb'))
      obtain ⟨hg, hcc⟩ := HC.out
      obtain ⟨p0, p1, p2, i1⟩ := hcc k (by simp; omega)
      have f1 : ∀ o, wr.cell? ⟨g, o, none⟩ = w.cell? ⟨g, o, none⟩ := fun o => World.cell?_of_block (w := w) (a := ⟨g, o, none⟩) ((hbl.block g (by omega)).trans (HB0.out.block g hg))
      have i2 := i1.of_block ((hbl.block _ (by have := i1.lt; omega)).trans (HB0.out.block _ i1.lt))
      have i3 := i2.cell
      have ilt := i2.lt
      have z8' : wr.cell? ⟨w.heap.size, 8, none⟩ = some (.slice (some ⟨g, 0, none⟩) m m) := (World.cell?_of_block (w := W0) (a := ⟨w.heap.size, 8, none⟩) (hbl.block _ zlt)).trans z8
      have p0' := (f1 _).trans p0
      have p1' := (f1 _).trans p1
      have p2' := (f1 _).trans p2
      rw [List.getElem_take] at p0' p1' i3 ilt
      obtain ⟨e, hee⟩ : ∃ e, es[k]'(by omega) = e := ⟨_, rfl⟩
      have hle : l[k]'(by omega) = e.toRec := by subst hel; simp [← hee]
      rw [hle] at q
      rw [hee] at p0' p1' i3 ilt
      obtain ⟨q0, q1, q2, q3, q4⟩ := q
      simp only [Ent.toRec] at q0 q1
      have hbw : b' < wr.heap.size := by have := hbl.size; omega
      have HBl := hide hbl
      have k1 : ((e.key : Int) != e.key) = false := by simp
      have k2 : (e.clk != e.clk) = false := by simp
      clear i1 i2 hle hcc hrc hee f1 p0 p1 p2 hbl q2 q3 q4
      go_upto_region 10 with fail
      have a0 : (wr.alloc (.cells #[.slice (some ⟨e.blk, 0, none⟩) 1 e.cap, .int .u64 e.clk, .nilIface] 58)).cell? ⟨wr.heap.size, 0, none⟩ = some (.slice (some ⟨e.blk, 0, none⟩) 1 e.cap) := (cell_of_heap (heap_alloc_new' wr _) 0).trans rfl
      have a1 : (wr.alloc (.cells #[.slice (some ⟨e.blk, 0, none⟩) 1 e.cap, .int .u64 e.clk, .nilIface] 58)).cell? ⟨wr.heap.size, 1, none⟩ = some (.int .u64 e.clk) := (cell_of_heap (heap_alloc_new' wr _) 1).trans rfl
      have a2 : (wr.alloc (.cells #[.slice (some ⟨e.blk, 0, none⟩) 1 e.cap, .int .u64 e.clk, .nilIface] 58)).cell? ⟨e.blk, 0, none⟩ = some (.int .u8 e.key) := (World.cell?_alloc_past _ _ _ ilt).trans i3
      have a3 : (wr.alloc (.cells #[.slice (some ⟨e.blk, 0, none⟩) 1 e.cap, .int .u64 e.clk, .nilIface] 58)).cell? ⟨b', off' + k * 5, none⟩ = some (.int .u8 e.key) := (World.cell?_alloc_past _ _ _ hbw).trans q0
      have a4 : (wr.alloc (.cells #[.slice (some ⟨e.blk, 0, none⟩) 1 e.cap, .int .u64 e.clk, .nilIface] 58)).cell? ⟨b', off' + k * 5 + 1, none⟩ = some (.int .u64 e.clk) := (World.cell?_alloc_past _ _ _ hbw).trans q1
      have HBe := hide (HBl.out.alloc HBl.out.size (.cells #[.slice (some ⟨e.blk, 0, none⟩) 1 e.cap, .int .u64 e.clk, .nilIface] 58))
      generalize wr.alloc (.cells #[.slice (some ⟨e.blk, 0, none⟩) 1 e.cap, .int .u64 e.clk, .nilIface] 58) = W9 at a0 a1 a2 a3 a4 HBe ⊢
      clear q0 q1 p0' p1' p2' i3 ilt z8' HBl
      go_quiet (fail)
      go_wp2
      go_roundw
      case rel => exact ⟨k + 1, by omega, by go_num, ⟨HBe.out.os, HBe.out.tape, HBe.out.output, HBe.out.size, HBe.out.block⟩⟩
      case measure => simp [intOf]; omega
    · go_wp2
      go_ret
      have hb0 := HB0.out
      exact ⟨rfl, hb0.trans ⟨hbl.os, hbl.tape, hbl.output, hbl.size, fun k hk => hbl.block k (by have := hb0.size; omega)⟩⟩

end Go.Proofs.YbulkagdqDoor

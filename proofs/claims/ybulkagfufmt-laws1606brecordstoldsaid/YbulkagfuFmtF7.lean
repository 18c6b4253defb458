import Derived.Test.YbulkagfuFmtF6
namespace Go.Proofs.YbulkagfuFmt
open Go.RowKit Go.WideMaps Go.Maps Go.Extern.Stop Go.Stop Go.Extern Go.MuLone
set_option linter.unusedVariables false
set_option maxRecDepth 100000

theorem range_nil (w : World) : (Instr.range 35 (.map none)).run Ybaf.prog w = .ok (.pointer (some ⟨w.heap.size, 0, none⟩)) (w.alloc (.mapIter none 0 #[] 0)) := by
  simp [Instr.range, go_sem]
theorem next_nil (w : World) (r : Nat) (ty : TypeId) (h : w.heap[r]? = some (.mapIter none 0 #[] 0)) : (Instr.next (.pointer (some ⟨r, 0, none⟩)) false ty).run Ybaf.prog w = .ok (.tuple #[.bool false]) w := by
  have e : (getObj r).run Ybaf.prog w = .ok (.mapIter none 0 #[] 0) w := by simp [getObj, Sem.run, h]
  unfold Instr.next
  simp only [Sem.run_bind, e, Result.andThen_ok]
  rfl

set_option maxHeartbeats 1000000 in
theorem message_nil (sb ib nI c base : Nat) (DI : DataW Unit) (sf nm : ByteArray) (m : Int) (w : World)
    (hs : w.heap[sb]? = some (.cells (snapC 0 sf (some ib) none) 38 (0, 0))) (hI : w.ownsMap Ybaf.prog 9 (plainElem Ybaf.prog 3) ib nI DI) (hsz : nm.size ≤ maxLen)
    (hat : DI.atKey (.string nm.data.toList) (.lit (.int .i64 0)) = .lit (.int .i64 c)) (hh : Maps.has DI (.string nm.data.toList) = true)
    (hb : base ≤ w.heap.size) (hsb : base ≤ sb) :
    Calls Ybaf.prog 5 #[.pointer (some ⟨sb, 0, none⟩), .string nm, .int .i64 m] w fun e w' => e = .returned .nilIface ∧ Fr base w w' := by
  have h0 := (cell_at hs 0).trans rfl
  have f0 := free_at hs 0
  have nI := map_ne hs hI
  go_enter_defers Ybaf.func5, Ybaf.ntmps5
  go_upto_region 3 with (go_at_call 6; refine (lock_free Ybaf.muLib ⟨sb, 0, none⟩ _ h0 f0).mono ?_; rintro e w' ⟨rfl, rfl⟩)
  have hlt : sb < w.heap.size := (Array.getElem?_eq_some_iff.1 hs).1
  have hs1 : (w.setCell ⟨sb, 0, none⟩ (.int .i32 1)).heap[sb]? = some (.cells (snapC 1 sf (some ib) none) 38 (0, 0)) := (heap_setCell_same w sb 0 _ 38 (.int .i32 1) hs).trans rfl
  have hI1 := hI.setCell (a := ⟨sb, 0, none⟩) nI (.int .i32 1)
  have hb1 : base ≤ (w.setCell ⟨sb, 0, none⟩ (.int .i32 1)).heap.size := by simpa [World.setCell] using hb
  have hF1 : Fr base w (w.setCell ⟨sb, 0, none⟩ (.int .i32 1)) := (Fr.refl base w).set38 hs hsb _
  generalize w.setCell ⟨sb, 0, none⟩ (.int .i32 1) = W1 at *
  clear hs hI hb h0 f0 nI hlt
  have g2 := (cell_at hs1 3).trans rfl
  have g7 := (cell_at hs1 7).trans rfl
  go_upto_region 6 with (go_at_call 8; refine (channel_hit sb ib _ c DI nm _ g2 hI1 hsz hat hh).mono ?_; rintro e w' ⟨rfl, hw⟩; obtain rfl := hw.symm)
  have HF1 := hide hF1
  have HS1 := hide hs1
  clear hF1 hs1 hI1
  have rn := range_nil
  go_wp2_with fail
  clear rn
  have hr : (W1.alloc (.mapIter none 0 #[] 0)).heap[W1.heap.size]? = some (.mapIter none 0 #[] 0) := heap_alloc_new W1 (.mapIter none 0 #[] 0)
  have hsL : sb < W1.heap.size := (Array.getElem?_eq_some_iff.1 (unhide HS1)).1
  have hS2 : (W1.alloc (.mapIter none 0 #[] 0)).heap[sb]? = some (.cells (snapC 1 sf (some ib) none) 38 (0, 0)) := (Below.heap_alloc _ _ _ hsL).trans (unhide HS1)
  have hF2 : Fr base w (W1.alloc (.mapIter none 0 #[] 0)) := (unhide HF1).grown (World.grownBy_alloc W1 _ none) hb1 (fun k h => by cases h)
  generalize W1.alloc (.mapIter none 0 #[] 0) = W2 at *
  go_loopw [10] (fun _ wx => wx = W2) (fun _ wx => 0)
  case atStart => rfl
  case round =>
    subst hrel
    have nx := fun ty => next_nil wr _ ty hr
    have u0 := (cell_at hS2 0).trans rfl
    have z0 := free_at hS2 0
    have HS := hide hS2
    have HF := hide hF2
    clear hS2 hF2
    go_wp2
    refine leaves_cons (f := 7) (args := #[.pointer (some ⟨sb, 0, none⟩)]) (by simp) (by simp [go_sem]) ?_
    refine (unlock_deferred Ybaf.muLib ⟨sb, 0, none⟩ .returning _ u0 z0).mono ?_
    rintro e u' w'' ⟨rfl, rfl, rfl⟩
    exact ⟨_, results_tmp rfl _ _ _, rfl, (unhide HF).set38 (unhide HS) hsb _⟩

set_option maxHeartbeats 1000000 in
theorem message_err (F : Interp) (sb ib nI base : Nat) (rm : Option Nat) (DI : DataW Unit) (sf nm : ByteArray) (m : Int) (w : World) (hF : F.answers w.tape)
    (hs : w.heap[sb]? = some (.cells (snapC 0 sf (some ib) rm) 38 (0, 0))) (hI : w.ownsMap Ybaf.prog 9 (plainElem Ybaf.prog 3) ib nI DI) (hsz : nm.size ≤ maxLen)
    (hh : Maps.has DI (.string nm.data.toList) = false) (hb : base ≤ w.heap.size) (hsb : base ≤ sb) :
    Calls Ybaf.prog 5 #[.pointer (some ⟨sb, 0, none⟩), .string nm, .int .i64 m] w fun e w' => ∃ t v, e = .returned (.iface t v) ∧ Below base w w' ∧ ∀ k, k < w.heap.size → k ≠ sb → w'.heap[k]? = w.heap[k]? := by
  have h0 := (cell_at hs 0).trans rfl
  have f0 := free_at hs 0
  have nI := map_ne hs hI
  go_enter_defers Ybaf.func5, Ybaf.ntmps5
  go_upto_region 3 with (go_at_call 6; refine (lock_free Ybaf.muLib ⟨sb, 0, none⟩ _ h0 f0).mono ?_; rintro e w' ⟨rfl, rfl⟩)
  have hlt : sb < w.heap.size := (Array.getElem?_eq_some_iff.1 hs).1
  have hs1 : (w.setCell ⟨sb, 0, none⟩ (.int .i32 1)).heap[sb]? = some (.cells (snapC 1 sf (some ib) rm) 38 (0, 0)) := (heap_setCell_same w sb 0 _ 38 (.int .i32 1) hs).trans rfl
  have hI1 := hI.setCell (a := ⟨sb, 0, none⟩) nI (.int .i32 1)
  have hz1 : (w.setCell ⟨sb, 0, none⟩ (.int .i32 1)).heap.size = w.heap.size := by simp [World.setCell]
  have hF1 : Fr base w (w.setCell ⟨sb, 0, none⟩ (.int .i32 1)) := (Fr.refl base w).set38 hs hsb _
  have hk1 : ∀ k, k < w.heap.size → k ≠ sb → (w.setCell ⟨sb, 0, none⟩ (.int .i32 1)).heap[k]? = w.heap[k]? := fun k _ hk => Below.heap_setCell w ⟨sb, 0, none⟩ _ k hk
  have hFa : F.answers (w.setCell ⟨sb, 0, none⟩ (.int .i32 1)).tape := hF
  generalize w.setCell ⟨sb, 0, none⟩ (.int .i32 1) = W1 at *
  clear hs hI h0 f0 nI
  have g2 := (cell_at hs1 2).trans rfl
  have g3 := (cell_at hs1 3).trans rfl
  go_upto_region 6 with (go_at_call 8; refine (channel_miss F sb ib _ DI sf nm _ hFa g2 g3 hI1 hsz hh).mono ?_; rintro e w' ⟨t, v, rfl, hw⟩)
  have hs2 : w'.heap[sb]? = some (.cells (snapC 1 sf (some ib) rm) 38 (0, 0)) := (hw.block sb (by omega)).trans hs1
  have u0 := (cell_at hs2 0).trans rfl
  have z0 := free_at hs2 0
  refine leaves_cons (f := 7) (args := #[.pointer (some ⟨sb, 0, none⟩)]) (by simp) (by simp [go_sem]) ?_
  refine (unlock_deferred Ybaf.muLib ⟨sb, 0, none⟩ .returning _ u0 z0).mono ?_
  rintro e u' w'' ⟨rfl, rfl, rfl⟩
  refine ⟨_, results_tmp rfl _ _ _, t, v, rfl, ((hF1.1.trans (hw.mono (by omega)))).setCell hsb _, fun k hk hne => ?_⟩
  rw [Below.heap_setCell _ _ _ _ hne, hw.block k (by omega)]
  exact hk1 k hk hne

end Go.Proofs.YbulkagfuFmt

import Derived.Test.YbulkagfuA4
namespace Go.Proofs.Ybulkagfu
open Go.RowKit
set_option linter.unusedVariables false
set_option maxRecDepth 100000
set_option maxHeartbeats 400000 in
theorem law_pos_00 (a0 a1 a2 : Int) (a3 : Option Addr) (n3 c3 : Nat) (z3 : List Int) (a4 a5 a6 : Int) (a7 : Option Addr) (n7 c7 : Nat) (z7 : List Int) (w : World)
    (hz3 : a3 = none → n3 = 0 ∧ c3 = 0) (hc3 : ∀ x, a3 = some x → ∀ i, i < n3 → w.cell? (x.add i) = some (.int .u8 (z3.getD i 0))) (hz7 : a7 = none → n7 = 0 ∧ c7 = 0) (hc7 : ∀ x, a7 = some x → ∀ i, i < n7 → w.cell? (x.add i) = some (.int .u8 (z7.getD i 0))) (hn3 : n3 ≤ 1024) (k3 : n3 = 0) (hn7 : n7 ≤ 1024) (k7 : n7 = 0) (h4 : 0 ≤ a4) :
    Calls Yba.prog 3 #[.int .i64 a0, .int .i64 a1, .int .i64 a2, .slice a3 n3 c3, .int .i64 a4, .int .i64 a5, .int .i64 a6, .slice a7 n7 c7] w fun e w' => e = .returned (.bool true) ∧ Below w.heap.size w w' := by
  subst k3
  subst k7
  have HC3 := hide (copy_any a3 0 c3 z3 w hn3 hz3 hc3)
  have HC7 := hide (fun (w1 : World) (hb : Below w.heap.size w w1) => copy_any a7 0 c7 z7 w1 hn7 hz7 (fun x hx i hi => (hb.cell (World.block_lt_of_cell? w _ (hc7 x hx i hi))).trans (hc7 x hx i hi)))
  have g3 : ¬ (1024 < 0) := by omega
  have g7 : ¬ (1024 < 0) := by omega
  have g3' : decide ((1024 : Int) < (0 : Int)) = false := by first | decide | (simp; omega)
  have g7' : decide ((1024 : Int) < (0 : Int)) = false := by first | decide | (simp; omega)
  have HZ := hide (And.intro hz3 (And.intro hc3 (And.intro hz7 hc7)))
  clear hz3 hc3 hz7 hc7
  go_enter Yba.func3, Yba.ntmps3
  go_upto_region 4 with (go_at_call 5; refine (unhide HC3).mono ?_; rintro e w1 ⟨la, rfl, hla, hb1⟩)
  have HC := hide (unhide HC7 w1 hb1)
  clear HC7 HC3
  go_upto_region 6 with (go_at_call 5; refine (unhide HC).mono ?_; rintro e w2 ⟨lb, rfl, hlb, hb2⟩)
  obtain ⟨hz3, hc3, hz7, hc7⟩ := HZ.out
  have hb12 : Below w.heap.size w w2 := hb1.trans (hb2.mono hb1.size)
  have hbW := below_al hb12 (.cells #[.pointer none, .int .i64 a0, .int .i64 a1, .int .i64 a2, .slice la 0 0, .int .i64 a4, .int .i64 a5, .int .i64 a6, .slice lb 0 0] 29)
  have hla2 := hla.below (fun k hk _ => hb2.block k hk) hb2.size
  have HQ3 := hide (fun (X : World) (hX : ∀ k, k < w2.heap.size → X.heap[k]? = w2.heap[k]?) (hs : w2.heap.size ≤ X.heap.size) (cc : Nat) => eq_copy (X := X) (cc := cc) (cap := c3) (a := a3) hn3 (hla2.below (fun k hk _ => hX k hk) hs) (fun h0 => by cases a3 with | none => exact absurd (hz3 rfl).1 (by omega) | some x => exact ⟨x, rfl⟩) (fun x hx i hi => by
    have h1 := hc3 x hx i hi
    have l := World.block_lt_of_cell? w _ h1
    rw [World.cell?_of_block (w := w2) (hX _ (by have := hb12.size; omega)), hb12.cell l]; exact h1))
  have HQ7 := hide (fun (X : World) (hX : ∀ k, k < w2.heap.size → X.heap[k]? = w2.heap[k]?) (hs : w2.heap.size ≤ X.heap.size) (cc : Nat) => eq_copy (X := X) (cc := cc) (cap := c7) (a := a7) hn7 (hlb.below (fun k hk _ => hX k hk) hs) (fun h0 => by cases a7 with | none => exact absurd (hz7 rfl).1 (by omega) | some x => exact ⟨x, rfl⟩) (fun x hx i hi => by
    have h1 := hc7 x hx i hi
    have l := World.block_lt_of_cell? w _ h1
    rw [World.cell?_of_block (w := w2) (hX _ (by have := hb12.size; omega)), hb12.cell l]; exact h1))
  have hE : (w2.alloc (.cells #[.pointer none, .int .i64 a0, .int .i64 a1, .int .i64 a2, .slice la 0 0, .int .i64 a4, .int .i64 a5, .int .i64 a6, .slice lb 0 0] 29)).heap[w2.heap.size]? = some (.cells #[.pointer none, .int .i64 a0, .int .i64 a1, .int .i64 a2, .slice la 0 0, .int .i64 a4, .int .i64 a5, .int .i64 a6, .slice lb 0 0] 29) := heap_new_at _ _ _ rfl
  have hpast : ∀ k, k < w2.heap.size → (w2.alloc (.cells #[.pointer none, .int .i64 a0, .int .i64 a1, .int .i64 a2, .slice la 0 0, .int .i64 a4, .int .i64 a5, .int .i64 a6, .slice lb 0 0] 29)).heap[k]? = w2.heap[k]? := fun k hk => Below.heap_alloc _ _ _ hk
  have hsz : w2.heap.size ≤ (w2.alloc (.cells #[.pointer none, .int .i64 a0, .int .i64 a1, .int .i64 a2, .slice la 0 0, .int .i64 a4, .int .i64 a5, .int .i64 a6, .slice lb 0 0] 29)).heap.size := by simp
  have hA3 : 0 < 0 → ∃ g, la = some ⟨g, 0, none⟩ := fun h => by obtain ⟨g, h1, _⟩ := hla2.at_ h; exact ⟨g, h1⟩
  have hA7 : 0 < 0 → ∃ g, lb = some ⟨g, 0, none⟩ := fun h => by obtain ⟨g, h1, _⟩ := hlb.at_ h; exact ⟨g, h1⟩
  have hbW2 : w.heap.size ≤ w2.heap.size := hb12.size
  clear hz3 hc3 hz7 hc7 hla hla2 hlb HZ HC hb1 hb2 hb12
  generalize (w2.alloc (.cells #[.pointer none, .int .i64 a0, .int .i64 a1, .int .i64 a2, .slice la 0 0, .int .i64 a4, .int .i64 a5, .int .i64 a6, .slice lb 0 0] 29)) = W at *
  obtain ⟨e0, e1, e2, e3, e4, e5, e6, e7, e8⟩ : W.cell? ⟨w2.heap.size, 0, none⟩ = some (.pointer none) ∧ W.cell? ⟨w2.heap.size, 1, none⟩ = some (.int .i64 a0) ∧ W.cell? ⟨w2.heap.size, 2, none⟩ = some (.int .i64 a1) ∧ W.cell? ⟨w2.heap.size, 3, none⟩ = some (.int .i64 a2) ∧ W.cell? ⟨w2.heap.size, 4, none⟩ = some (.slice la 0 0) ∧ W.cell? ⟨w2.heap.size, 5, none⟩ = some (.int .i64 a4) ∧ W.cell? ⟨w2.heap.size, 6, none⟩ = some (.int .i64 a5) ∧ W.cell? ⟨w2.heap.size, 7, none⟩ = some (.int .i64 a6) ∧ W.cell? ⟨w2.heap.size, 8, none⟩ = some (.slice lb 0 0) := by
    refine ⟨?_, ?_, ?_, ?_, ?_, ?_, ?_, ?_, ?_⟩ <;> (rw [cell_of_heap hE]; rfl)
  have ef := fun t => free_of_heap hE t
  have HS := hide hbW2
  clear hbW2
  have HH := hide (And.intro hbW (And.intro hpast hsz))
  clear hbW hpast hsz hE
  obtain ⟨ii, hii, _⟩ := Option.map_eq_some_iff.1 Yba.inf5
  have hnil := fun wx ao n c => Lib.run_eql_slice_nil (P := Yba.prog) wx 22 5 ao n c 0 0 Yba.underlying22
  have hpp := fun wx a => neq_ptr (tp := 31) (te := 5) wx a Yba.underlying31 hii
  have HR := hide (And.intro hnil hpp)
  clear hnil hpp hii
  have h4' : ¬ (a4 < 0) := by omega
  obtain ⟨hbW, hpast, hsz⟩ := HH.out
  clear HH
  have HP := hide (adv_pos2 w2.heap.size a4 a1 a2 a5 a6 la 0 0 lb 0 0 W e0 e1 e2 e3 e4 e5 e6 e7 e8 ef (Nat.le_refl _) h4)
  have le0 := World.block_lt_of_cell? W _ e0
  clear e0 e1 e2 e3 e4 e5 e6 e7 e8 ef
  have HB := hide (And.intro hbW (And.intro hpast (And.intro hsz le0)))
  clear hbW hpast hsz le0
  go_upto_region 8 with (go_at_call 6; refine (unhide HP).mono ?_; rintro e X ⟨rfl, hX, e0, e1, e2, e3, e4, e5, e6, e7, e8⟩)
  go_upto_region 23 with fail
  obtain ⟨hbW, hpast, hsz, le0⟩ := HB.out
  have hbX : Below w.heap.size w X := hbW.trans (hX.mono (Nat.le_trans HS.out (Nat.le_refl _)))
  have hpX : ∀ k, k < w2.heap.size → X.heap[k]? = w2.heap[k]? := fun k hk => (hX.block k hk).trans (hpast k hk)
  have hsX : w2.heap.size ≤ X.heap.size := Nat.le_trans hsz hX.size
  have le : w2.heap.size < X.heap.size := Nat.lt_of_lt_of_le le0 hX.size
  have H1 := hide (unhide HQ7 X hpX hsX 0)
  have H2 := hide (fun w5 (hb5 : Below X.heap.size X w5) => unhide HQ3 w5 (fun k hk => (hb5.block k (Nat.lt_of_lt_of_le hk hsX)).trans (hpX k hk)) (Nat.le_trans hsX hb5.size) 0)
  have H3 := hide (fun w5 (hb5 : Below X.heap.size X w5) => unhide HQ7 w5 (fun k hk => (hb5.block k (Nat.lt_of_lt_of_le hk hsX)).trans (hpX k hk)) (Nat.le_trans hsX hb5.size) 0)
  have HF := hide hbX
  have HE := hide (And.intro e4 (And.intro e8 le))
  clear hpX hsX hbX hpast hsz le0 HQ3 HQ7 HB hX hbW e0 e1 e2 e3 e5 e6 e7 HP le
  obtain ⟨hnil, hpp⟩ := HR.out
  go_upto_region 25 with (go_at_call 7; refine (unhide H1).mono ?_; rintro e w5 ⟨rfl, hb5⟩; have e4 := (hb5.cell (p := ⟨w2.heap.size, 4, none⟩) HE.out.2.2).trans HE.out.1; have e8 := (hb5.cell (p := ⟨w2.heap.size, 8, none⟩) HE.out.2.2).trans HE.out.2.1; clear H1)
  go_cut [246] (fun v wx => v = .bool false ∧ wx = w5.drew)
  case first =>
    go_region
    all_goals (try go_wp2_with fail)
    all_goals go_meet
    all_goals exact ⟨rfl, rfl⟩
  case rest =>
    obtain ⟨rfl, rfl⟩ := hcut
    go_upto_region 29 with fail
    go_cut [290] (fun v wx => v = .bool false ∧ wx = w5.drew.drew)
    case first =>
      go_region
      all_goals (try go_wp2_with fail)
      all_goals go_meet
      all_goals exact ⟨rfl, rfl⟩
    case rest =>
      obtain ⟨rfl, rfl⟩ := hcut
      have hb5' : Below X.heap.size X w5.drew.drew := hb5.drew.drew
      have H2' := hide (unhide H2 w5.drew.drew hb5')
      have H3' := hide (fun w6 (hb6 : Below w5.drew.drew.heap.size w5.drew.drew w6) => unhide H3 w6 (hb5'.trans (hb6.mono hb5'.size)))
      have HB5 := hide hb5'
      clear hnil hpp H2 H3 hb5' hb5
      go_wp2_with (go_at_call 7; first | (refine (unhide H2').mono ?_; rintro e w6 ⟨rfl, hb6⟩; clear H2') | (refine (unhide H3' w6 hb6).mono ?_; rintro e w7 ⟨rfl, hb7⟩))
      go_ret
      exact ⟨rfl, (unhide HF).trans (((unhide HB5).trans ((hb6.trans (hb7.mono hb6.size)).mono (unhide HB5).size)).mono (unhide HF).size)⟩

end Go.Proofs.Ybulkagfu

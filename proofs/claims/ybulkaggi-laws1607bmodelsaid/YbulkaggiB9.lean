import Derived.Test.YbulkaggiB8
namespace Go.Proofs.Ybulkaggi.BM
open Go.RowKit Go.Proofs.Ybulkaggi Go.Sort Go.Shelf Go.Lib
open Go.Proofs.Ybulkaggi.CE (hlt tag_ne own_tag own_keep)
set_option linter.unusedVariables false
set_option maxRecDepth 100000

theorem sort_pos_none (p : Option Addr) (cp : Nat) (fv : Value) (w : World) : Calls Yba.prog 57 #[.slice p 0 cp, fv] w fun e w' => e = .returned (.tuple #[]) ∧ w' = w := by
  have h := AnyF.slices_SortFunc_none Yba.sortInt0 p cp fv w
  change Calls Yba.prog 57 _ _ _ at h
  exact h
theorem info3 : (Yba.prog.info? 3).map (fun i => (i.zero, i.size, i.bytes)) = some (some (.int .i64 0), 1, 8) := by kernel_rfl
def accs (L : List O3) (k : Nat) : List Nat := (List.range k).filter (fun p => decide ((opD L p).1 ≤ 2))
theorem accs_succ (L : List O3) (k : Nat) : accs L (k + 1) = accs L k ++ (if (opD L k).1 ≤ 2 then [k] else []) := by
  unfold accs
  rw [List.range_succ, List.filter_append]
  congr 1
  by_cases h : (opD L k).1 ≤ 2 <;> simp [h]
theorem accs_len (L : List O3) (k : Nat) : (accs L k).length ≤ k := by
  have := List.length_filter_le (fun p => decide ((opD L p).1 ≤ 2)) (List.range k)
  simpa [accs] using this
theorem mem_accs {L : List O3} {p : Nat} : p ∈ accs L L.length ↔ Acc L p := by
  unfold accs Acc
  simp

structure ByRes (w : World) (L : List O3) (v : Value) (P : List Nat) (w' : World) : Prop where
  row : w'.ownsRow w.heap.size 3 1 v P.length (P.map zI)
  perm : P.Perm (accs L L.length)
  srt : P.Pairwise (fun p q => ¬ cmpA L q p < 0)
  bel : Below w.heap.size w w'
def ByPost (w : World) (L : List O3) (e : Ending) (w' : World) : Prop := ∃ v P, e = .returned v ∧ ByRes w L v P w'

set_option maxHeartbeats 2000000 in
theorem ByItem_any (g n c : Nat) (L : List O3) (w : World) (hn : n ≤ 256) (hl : L.length = n) (h : OpsAt w g L) (hg : g < w.heap.size) :
    Calls Yba.prog 29 #[.slice (some ⟨g, 0, none⟩) n c] w (ByPost w L) := by
  have H := hide h
  have HL := hide hl
  have HG := hide hg
  clear h hl hg
  obtain ⟨i0, hi, hz0, hz1, hz2⟩ := info_at info3
  go_enter Yba.func29, Yba.ntmps29
  go_upto_region 2 with fail
  have hX : (w.alloc (.cells #[.slice (some ⟨g, 0, none⟩) n c] 39)).heap[w.heap.size]? = some (.cells #[.slice (some ⟨g, 0, none⟩) n c] 39 (0, 0)) := heap_alloc_new w _
  have hB : Below w.heap.size w (w.alloc (.cells #[.slice (some ⟨g, 0, none⟩) n c] 39)) := (Below.refl _ _).alloc (Nat.le_refl _) _
  have hsz : (w.alloc (.cells #[.slice (some ⟨g, 0, none⟩) n c] 39)).heap.size = w.heap.size + 1 := by simp
  generalize w.alloc (.cells #[.slice (some ⟨g, 0, none⟩) n c] 39) = w1 at *
  have x0 : w1.cell? ⟨w.heap.size, 0, none⟩ = some (.slice (some ⟨g, 0, none⟩) n c) := (cell_at hX 0).trans rfl
  have HX := hide hX
  have HB := hide hB
  clear hX hB
  go_wp2
  go_loopw [3, 8] (fun v q wr => ∃ (k : Nat), k ≤ n ∧ q = .int .i64 (k : Int) ∧ wr.ownsRow (w.heap.size + 1) 3 1 v (accs L k).length ((accs L k).map zI) ∧ Below (w.heap.size + 1) w1 wr) (fun _ q _ => n - (intOf q).toNat)
  case atStart => exact ⟨0, Nat.zero_le _, rfl, World.ownsRow_nil _ _ _ _, Below.refl _ _⟩
  case round =>
    obtain ⟨k, hk, rfl, how, hbl⟩ := hrel
    have hsz2 := hbl.size
    rw [hsz] at hsz2
    have lenk := accs_len L k
    by_cases hkn : k < n
    · have hkn' : (k : Int) < (n : Int) := by omega
      have hkl : k < L.length := by rw [HL.out]; exact hkn
      have eg : wr.heap[g]? = w.heap[g]? := (hbl.block g (by have := HG.out; omega)).trans (HB.out.block g HG.out)
      have c0 := (World.cell?_of_block (a := ⟨g, k * 3, none⟩) eg).trans (H.out.a k hkl)
      have c1 := (World.cell?_of_block (a := ⟨g, k * 3 + 1, none⟩) eg).trans (H.out.t k hkl)
      have c2 := (World.cell?_of_block (a := ⟨g, k * 3 + 2, none⟩) eg).trans (H.out.i k hkl)
      have ok := H.out.ok k hkl
      obtain ⟨o, ho⟩ : ∃ o, L[k] = o := ⟨_, rfl⟩
      rw [ho] at c0 c1 c2 ok
      have hop : opD L k = o := by unfold opD; rw [getD_at hkl, ho]
      have HS := hide (accs_succ L k)
      rw [hop] at HS
      have C56 := hide (isAccess_any o ok (wr.alloc (.cells #[.string (actB o.1), .int .i64 (o.2.1 : Nat), .string (itB o)] 87)))
      obtain ⟨va, vc, rfl⟩ := own_shape how
      have OW := hide how
      have BL := hide hbl
      clear how hbl eg ok ho hop
      generalize itB o = s at *
      generalize actB o.1 = a at *
      have hN1 : w.heap.size + 1 ≤ wr.heap.size := by omega
      by_cases h2 : o.1 ≤ 2
      · rw [if_pos h2] at HS
        rw [decide_eq_true h2] at C56
        have FIN : Hid (∀ (w2 w3 : World) (o2 : Obj) (v' : Value), Below (wr.alloc (.cells #[.string a, .int .i64 (o.2.1 : Nat), .string s] 87)).heap.size (wr.alloc (.cells #[.string a, .int .i64 (o.2.1 : Nat), .string s] 87)) w2 → w3.ownsRow (w.heap.size + 1) 3 1 v' ((accs L k).length + 1) ((accs L k).map zI ++ [.int .i64 (k : Int)]) → (w2.alloc o2).grownBy w3 (Value.slice va (accs L k).length vc).ownBlock → w3.ownsRow (w.heap.size + 1) 3 1 v' (accs L (k + 1)).length ((accs L (k + 1)).map zI) ∧ Below (w.heap.size + 1) w1 w3) := fun w2 w3 o2 v' e1 e2 e3 => by
          refine ⟨?_, ?_⟩
          · rw [HS.out]
            simpa [zI] using e2
          · have b1 : Below (w.heap.size + 1) w1 w2 := (BL.out.alloc (by omega) _).trans ⟨e1.os, e1.tape, e1.output, e1.size, fun i hi => e1.block i (by simp; omega)⟩
            have sz := b1.size
            have sz2 := e1.size
            simp at sz2
            exact (b1.alloc (by omega) o2).grown e3 (by simp; omega) (fun x hx => (OW.out.lt x hx).1)
        have OB : Hid (∀ w2 : World, Below (wr.alloc (.cells #[.string a, .int .i64 (o.2.1 : Nat), .string s] 87)).heap.size (wr.alloc (.cells #[.string a, .int .i64 (o.2.1 : Nat), .string s] 87)) w2 → w2.ownsRow (w.heap.size + 1) 3 1 (.slice va (accs L k).length vc) (accs L k).length ((accs L k).map zI) ∧ w.heap.size + 1 ≤ w2.heap.size) := fun w2 e1 => by
          have sz2 := e1.size
          simp at sz2
          refine ⟨own_keep (OW.out.alloc (.cells #[.string a, .int .i64 (o.2.1 : Nat), .string s] 87)) (fun b hb => e1.block b (by have := (OW.out.lt b hb).2; simp; omega)), by omega⟩
        generalize (accs L k).map zI = XS at *
        generalize (accs L k).length = m at *
        go_wp2_with (first
          | (go_at_call 56; refine C56.out.mono ?_; rintro e w2 ⟨rfl, e1⟩; have E1 := hide e1; obtain ⟨ob, ln⟩ := OB.out w2 e1; have OO := hide ob; clear e1 ob)
          | (at_builtin; refine wpList_append_own_at _ rfl _ _ 58 rfl (w.heap.size + 1) 3 i0 (.int .i64 0) 1 8 Yba.underlying58 hi hz0 hz1 hz2 rfl (by decide) (.slice va m vc) m XS rfl (OO.out.alloc _) ⟨w2.heap.size, 0, none⟩ 1 1 [.int .i64 (k : Int)] rfl rfl (cell_one_new w2 (.int .i64 (k : Int)) 3) (by intro u hu; simp at hu; subst hu; rfl) (by unfold maxLen; omega) (by omega) (by simp; omega) ?_; intro v' w3 e2 e3 _ _; have FF := hide (FIN.out w2 w3 _ v' E1.out e2 e3); clear e2 e3))
        exact ⟨⟨k + 1, hkn, by simp, FF.out⟩, by simp [intOf]; omega⟩
      · rw [if_neg h2, List.append_nil] at HS
        rw [decide_eq_false h2] at C56
        have FIN : Hid (∀ w2 : World, Below (wr.alloc (.cells #[.string a, .int .i64 (o.2.1 : Nat), .string s] 87)).heap.size (wr.alloc (.cells #[.string a, .int .i64 (o.2.1 : Nat), .string s] 87)) w2 → w2.ownsRow (w.heap.size + 1) 3 1 (.slice va (accs L k).length vc) (accs L (k + 1)).length ((accs L (k + 1)).map zI) ∧ Below (w.heap.size + 1) w1 w2) := fun w2 e1 => by
          have sz2 := e1.size
          simp at sz2
          refine ⟨?_, (BL.out.alloc (by omega) _).trans ⟨e1.os, e1.tape, e1.output, e1.size, fun i hi => e1.block i (by simp; omega)⟩⟩
          rw [HS.out]
          exact own_keep (OW.out.alloc (.cells #[.string a, .int .i64 (o.2.1 : Nat), .string s] 87)) (fun b hb => e1.block b (by have := (OW.out.lt b hb).2; simp; omega))
        generalize (accs L k).length = m at *
        go_wp2_with (go_at_call 56; refine C56.out.mono ?_; rintro e w2 ⟨rfl, e1⟩; have E1 := hide e1; clear e1)
        exact ⟨⟨k + 1, hkn, by simp, FIN.out w2 E1.out⟩, by simp [intOf]; omega⟩
    · have hkn' : ¬ (k : Int) < (n : Int) := by omega
      obtain rfl : k = n := by omega
      obtain ⟨va, vc, rfl⟩ := own_shape how
      have hBw : Below w.heap.size w wr := HB.out.trans ⟨hbl.os, hbl.tape, hbl.output, hbl.size, fun i hi => hbl.block i (by omega)⟩
      by_cases h0 : (accs L k).length = 0
      · have hnil : accs L k = [] := List.length_eq_zero_iff.1 h0
        have FIN : Hid (ByPost w L (.returned (.slice va (accs L k).length vc)) wr) := ⟨_, accs L k, rfl, ⟨by
          rcases how.2 with ⟨h1, _⟩ | ⟨g', cap, cur, h1, h2, h3⟩
          · exact ⟨by simp, .inl ⟨h1, h0⟩⟩
          · exact ⟨by simp, .inr ⟨g', cap, cur, h1, by omega, h3⟩⟩, by rw [HL.out], by rw [hnil]; exact .nil, hBw⟩⟩
        rw [h0] at FIN ⊢
        clear how hbl hBw
        go_wp2_with (go_at_call 57; refine (sort_pos_none _ _ _ _).mono ?_; rintro e w' ⟨rfl, hw⟩; obtain rfl := hw.symm)
        go_ret
        exact FIN.out
      · rcases how.2 with ⟨h1, h2⟩ | ⟨gp, cap, cur, h1, hbs, hg, hrest⟩
        · exact absurd h2 h0
        · cases h1
          have ngp : g ≠ gp := by have := HG.out; omega
          have C57 := hide (sort_pos gp vc (w.heap.size + 1) g k c w.heap.size (accs L k) L wr how (by omega) (by omega) (fun p hp => mem_accs.1 (by rw [HL.out]; exact hp)) (H.out.keep ((hbl.block g (by have := HG.out; omega)).trans (HB.out.block g HG.out))) HL.out ((World.cell?_of_block (a := ⟨w.heap.size, 0, none⟩) (hbl.block w.heap.size (by omega))).trans x0) (by have := HG.out; omega) (by omega) ngp (by omega))
          have FIN : Hid (∀ (w2 : World) (P' : List Nat), P'.Perm (accs L k) → P'.Pairwise (fun p q => ¬ cmpA L q p < 0) → w2.ownsRow (w.heap.size + 1) 3 1 (.slice (some ⟨gp, 0, none⟩) (accs L k).length vc) (accs L k).length (P'.map zI) → At1 gp wr w2 → ByPost w L (.returned (.slice (some ⟨gp, 0, none⟩) (accs L k).length vc)) w2) := fun w2 P' e1 e2 e3 e4 => by
            refine ⟨_, P', rfl, ⟨?_, by rw [HL.out]; exact e1, e2, hBw.trans (e4.below (by omega) (by omega))⟩⟩
            rw [e1.length_eq]
            rcases e3.2 with ⟨h1, _⟩ | ⟨g', cap', cur', h1, h2, h3⟩
            · cases h1
            · exact ⟨e3.1, .inr ⟨g', cap', cur', h1, by omega, h3⟩⟩
          clear how hbl hBw hg hrest
          generalize (accs L k).length = m at *
          go_wp2_with (go_at_call 57; refine C57.out.mono ?_; rintro e w2 ⟨rfl, P', e1, e2, e3, e4⟩; have FF := hide (FIN.out w2 P' e1 e2 e3 e4); clear e1 e2 e3 e4)
          go_ret
          exact FF.out
end Go.Proofs.Ybulkaggi.BM

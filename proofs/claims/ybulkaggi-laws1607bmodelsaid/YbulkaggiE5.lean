import Derived.Test.YbulkaggiE4
namespace Go.Proofs.Ybulkaggi
open Go.RowKit Go.Sort
set_option linter.unusedVariables false
set_option maxRecDepth 100000

abbrev An := D × Nat
abbrev kindV : ByteArray := { data := #[112, 104, 97, 110, 116, 111, 109, 45, 117, 112, 100, 97, 116, 101] }
def encA (x : An) : List Value := [.string kindV, .int .i64 x.1.1, .int .i64 x.1.2.1, .slice (some ⟨x.2, 0, none⟩) 2 2]
def Items (w : World) (x : An) : Prop := w.heap[x.2]? = some (.cells #[.string x.1.2.2.1, .string x.1.2.2.2] 9 (0, 0))

theorem cmpS_self (x : List UInt8) : cmpS x x = 0 := (cmpS_val x x).2.1.2 rfl

theorem drewN_one (w : World) : w.drew = w.drewN 1 := rfl

set_option maxHeartbeats 1000000 in
theorem cmp10 (a b : Int) (s t : ByteArray) (g : Nat) (a' b' : Int) (s' t' : ByteArray) (g' : Nat) (W : World) (hx : Items W ((a, b, s, t), g)) (hy : Items W ((a', b', s', t'), g')) :
    Calls Yba.prog 10 #[.agg #[.string kindV, .int .i64 a, .int .i64 b, .slice (some ⟨g, 0, none⟩) 2 2], .agg #[.string kindV, .int .i64 a', .int .i64 b', .slice (some ⟨g', 0, none⟩) 2 2]] W fun e w' =>
      e = .returned (.int .i64 (cmpD (a, b, s, t) (a', b', s', t'))) ∧ ∃ q os', w' = grow (W.drewN q) os' := by
  have HG : Hid (∃ os', (W.alloc (.cells #[.string kindV, .int .i64 a, .int .i64 b, .slice (some ⟨g, 0, none⟩) 2 2] 32)).alloc (.cells #[.string kindV, .int .i64 a', .int .i64 b', .slice (some ⟨g', 0, none⟩) 2 2] 32) = grow (W.drewN 0) os') := ⟨_, by rw [alloc_eq_grow, alloc_eq_grow, grow_grow]; rfl⟩
  have lg : g < W.heap.size := (Array.getElem?_eq_some_iff.1 hx).1
  have lg' : g' < W.heap.size := (Array.getElem?_eq_some_iff.1 hy).1
  obtain ⟨h1, h2⟩ := two_new W (.cells #[.string kindV, .int .i64 a, .int .i64 b, .slice (some ⟨g, 0, none⟩) 2 2] 32) (.cells #[.string kindV, .int .i64 a', .int .i64 b', .slice (some ⟨g', 0, none⟩) 2 2] 32)
  have h3 : ((W.alloc (.cells #[.string kindV, .int .i64 a, .int .i64 b, .slice (some ⟨g, 0, none⟩) 2 2] 32)).alloc (.cells #[.string kindV, .int .i64 a', .int .i64 b', .slice (some ⟨g', 0, none⟩) 2 2] 32)).heap[g]? = _ := (Below.heap_alloc _ _ _ (by simp; omega)).trans ((Below.heap_alloc _ _ _ lg).trans hx)
  have h4 : ((W.alloc (.cells #[.string kindV, .int .i64 a, .int .i64 b, .slice (some ⟨g, 0, none⟩) 2 2] 32)).alloc (.cells #[.string kindV, .int .i64 a', .int .i64 b', .slice (some ⟨g', 0, none⟩) 2 2] 32)).heap[g']? = _ := (Below.heap_alloc _ _ _ (by simp; omega)).trans ((Below.heap_alloc _ _ _ lg').trans hy)
  have c0 := (cell_at h1 0).trans rfl
  have c1 := (cell_at h1 1).trans rfl
  have c2 := (cell_at h1 2).trans rfl
  have c3 := (cell_at h1 3).trans rfl
  have d0 := (cell_at h2 0).trans rfl
  have d1 := (cell_at h2 1).trans rfl
  have d2 := (cell_at h2 2).trans rfl
  have d3 := (cell_at h2 3).trans rfl
  have e0 := (cell_at h3 0).trans rfl
  have e1 := (cell_at h3 1).trans rfl
  have f0 := (cell_at h4 0).trans rfl
  have f1 := (cell_at h4 1).trans rfl
  clear h1 h2 h3 h4 hx hy lg lg'
  have HC := hide (And.intro c0 (And.intro c1 (And.intro c2 (And.intro c3 (And.intro d0 (And.intro d1 (And.intro d2 (And.intro d3 (And.intro e0 (And.intro e1 (And.intro f0 f1)))))))))))
  clear c0 c1 c2 c3 d0 d1 d2 d3 e0 e1 f0 f1
  have hkk : cmpS kindV.toList kindV.toList = 0 := cmpS_self _
  have HV : Hid (cmpD (a, b, s, t) (a', b', s', t') = orI (cmpI a a') (orI (cmpI b b') (orI (cmpS s.toList s'.toList) (cmpS t.toList t'.toList)))) := rfl
  generalize cmpD (a, b, s, t) (a', b', s', t') = R at *
  go_enter Yba.func10, Yba.ntmps10
  go_upto_region 1 with fail
  obtain ⟨c0, c1, c2, c3, d0, d1, d2, d3, e0, e1, f0, f1⟩ := HC.out
  clear HC
  generalize (W.alloc (.cells #[.string kindV, .int .i64 a, .int .i64 b, .slice (some ⟨g, 0, none⟩) 2 2] 32)).alloc (.cells #[.string kindV, .int .i64 a', .int .i64 b', .slice (some ⟨g', 0, none⟩) 2 2] 32) = X at *
  by_cases p1 : cmpI a a' = 0
  · by_cases p2 : cmpI b b' = 0
    · have HR : Hid (R = orI (cmpS s.toList s'.toList) (cmpS t.toList t'.toList)) := by
        show R = _
        rw [HV.out, p1, p2]; simp [orI]
      clear HV
      go_wp2_with (first | (go_at_call 27; refine (cmp_str _ _ _).mono ?_; rintro e w' ⟨rfl, hw⟩; obtain rfl := hw.symm) | (go_at_call 12; refine (cmp_int _ _ _).mono ?_; rintro e w' ⟨rfl, hw⟩; obtain rfl := hw.symm))
      go_loopw [9] (fun q wr => ∃ k : Nat, q = .int .i64 k ∧ ((k = 0 ∧ wr = X) ∨ (k = 1 ∧ wr = X.drew ∧ cmpS s.toList s'.toList = 0) ∨ (k = 2 ∧ wr = X.drew.drew ∧ cmpS s.toList s'.toList = 0 ∧ cmpS t.toList t'.toList = 0))) (fun q _ => 2 - (intOf q).toNat)
      case atStart => exact ⟨0, rfl, .inl ⟨rfl, rfl⟩⟩
      case round =>
        obtain ⟨k, rfl, hk⟩ := hrel
        rcases hk with ⟨rfl, hw⟩ | ⟨rfl, hw, z1⟩ | ⟨rfl, hw, z1, z2⟩
        · obtain rfl := hw.symm
          by_cases p3 : cmpS s.toList s'.toList = 0
          · have HP := hide p3
            go_upto_region 16 with fail
            go_region_held3 (fun x => x.cell? ⟨W.heap.size, 3, none⟩ = some (.slice (some ⟨g, 0, none⟩) 2 2) ∧ x.cell? ⟨W.heap.size + 1, 3, none⟩ = some (.slice (some ⟨g', 0, none⟩) 2 2) ∧ x.cell? ⟨g, 0, none⟩ = some (.string s) ∧ x.cell? ⟨g, 1, none⟩ = some (.string t) ∧ x.cell? ⟨g', 0, none⟩ = some (.string s') ∧ x.cell? ⟨g', 1, none⟩ = some (.string t')) (go_keep) (first | (go_at_call 27; refine (cmp_str _ _ _).mono ?_; rintro e w' ⟨rfl, hw⟩; obtain rfl := hw.symm) | (go_at_call 12; refine (cmp_int _ _ _).mono ?_; rintro e w' ⟨rfl, hw⟩; obtain rfl := hw.symm))
            go_wp2
            go_roundw
            case rel => exact ⟨1, by go_num, .inr (.inl ⟨rfl, by first | rfl | trivial, unhide HP⟩)⟩
            case measure => simp [intOf]
          · go_upto_region 16 with fail
            go_region_held3 (fun x => x.cell? ⟨W.heap.size, 3, none⟩ = some (.slice (some ⟨g, 0, none⟩) 2 2) ∧ x.cell? ⟨W.heap.size + 1, 3, none⟩ = some (.slice (some ⟨g', 0, none⟩) 2 2) ∧ x.cell? ⟨g, 0, none⟩ = some (.string s) ∧ x.cell? ⟨g, 1, none⟩ = some (.string t) ∧ x.cell? ⟨g', 0, none⟩ = some (.string s') ∧ x.cell? ⟨g', 1, none⟩ = some (.string t')) (go_keep) (first | (go_at_call 27; refine (cmp_str _ _ _).mono ?_; rintro e w' ⟨rfl, hw⟩; obtain rfl := hw.symm) | (go_at_call 12; refine (cmp_int _ _ _).mono ?_; rintro e w' ⟨rfl, hw⟩; obtain rfl := hw.symm))
            go_wp2
            go_ret
            obtain ⟨os, ho⟩ := HG.out
            subst ho
            exact ⟨by rw [HR.out]; unfold orI; rw [if_neg p3]; rfl, 1, os, rfl⟩
        · obtain rfl := hw.symm
          by_cases p4 : cmpS t.toList t'.toList = 0
          · have HP := hide p4
            have HZ := hide z1
            clear z1
            go_upto_region 16 with fail
            go_region_held3 (fun x => x.cell? ⟨W.heap.size, 3, none⟩ = some (.slice (some ⟨g, 0, none⟩) 2 2) ∧ x.cell? ⟨W.heap.size + 1, 3, none⟩ = some (.slice (some ⟨g', 0, none⟩) 2 2) ∧ x.cell? ⟨g, 0, none⟩ = some (.string s) ∧ x.cell? ⟨g, 1, none⟩ = some (.string t) ∧ x.cell? ⟨g', 0, none⟩ = some (.string s') ∧ x.cell? ⟨g', 1, none⟩ = some (.string t')) (go_keep) (first | (go_at_call 27; refine (cmp_str _ _ _).mono ?_; rintro e w' ⟨rfl, hw⟩; obtain rfl := hw.symm) | (go_at_call 12; refine (cmp_int _ _ _).mono ?_; rintro e w' ⟨rfl, hw⟩; obtain rfl := hw.symm))
            go_wp2
            go_roundw
            case rel => exact ⟨2, by go_num, .inr (.inr ⟨rfl, by first | rfl | trivial, unhide HZ, unhide HP⟩)⟩
            case measure => simp [intOf]
          · go_upto_region 16 with fail
            go_region_held3 (fun x => x.cell? ⟨W.heap.size, 3, none⟩ = some (.slice (some ⟨g, 0, none⟩) 2 2) ∧ x.cell? ⟨W.heap.size + 1, 3, none⟩ = some (.slice (some ⟨g', 0, none⟩) 2 2) ∧ x.cell? ⟨g, 0, none⟩ = some (.string s) ∧ x.cell? ⟨g, 1, none⟩ = some (.string t) ∧ x.cell? ⟨g', 0, none⟩ = some (.string s') ∧ x.cell? ⟨g', 1, none⟩ = some (.string t')) (go_keep) (first | (go_at_call 27; refine (cmp_str _ _ _).mono ?_; rintro e w' ⟨rfl, hw⟩; obtain rfl := hw.symm) | (go_at_call 12; refine (cmp_int _ _ _).mono ?_; rintro e w' ⟨rfl, hw⟩; obtain rfl := hw.symm))
            go_wp2
            go_ret
            obtain ⟨os, ho⟩ := HG.out
            subst ho
            exact ⟨by rw [HR.out, z1]; unfold orI; rw [if_pos rfl]; rfl, 2, os, rfl⟩
        · obtain rfl := hw.symm
          have HZ := hide (And.intro z1 z2)
          clear z1 z2
          go_wp2_with (first | (go_at_call 27; refine (cmp_str _ _ _).mono ?_; rintro e w' ⟨rfl, hw⟩; obtain rfl := hw.symm) | (go_at_call 12; refine (cmp_int _ _ _).mono ?_; rintro e w' ⟨rfl, hw⟩; obtain rfl := hw.symm))
          go_ret
          obtain ⟨os, ho⟩ := HG.out
          subst ho
          exact ⟨by rw [HR.out, HZ.out.1, HZ.out.2]; simp [orI, cmpI], 2, os, rfl⟩
    · go_wp2_with (first | (go_at_call 27; refine (cmp_str _ _ _).mono ?_; rintro e w' ⟨rfl, hw⟩; obtain rfl := hw.symm) | (go_at_call 12; refine (cmp_int _ _ _).mono ?_; rintro e w' ⟨rfl, hw⟩; obtain rfl := hw.symm))
      go_ret
      obtain ⟨os, ho⟩ := HG.out
      subst ho
      exact ⟨by rw [HV.out, p1]; unfold orI; rw [if_pos rfl, if_neg p2]; rfl, 0, os, rfl⟩
  · go_wp2_with (first | (go_at_call 27; refine (cmp_str _ _ _).mono ?_; rintro e w' ⟨rfl, hw⟩; obtain rfl := hw.symm) | (go_at_call 12; refine (cmp_int _ _ _).mono ?_; rintro e w' ⟨rfl, hw⟩; obtain rfl := hw.symm))
    go_ret
    obtain ⟨os, ho⟩ := HG.out
    subst ho
    exact ⟨by rw [HV.out]; unfold orI; rw [if_neg p1]; rfl, 0, os, rfl⟩

end Go.Proofs.Ybulkaggi

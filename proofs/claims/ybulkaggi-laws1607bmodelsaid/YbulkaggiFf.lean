import Derived.Test.YbulkaggiFc
import Derived.Test.YbulkaggiFe
namespace Go.Proofs.Ybulkaggi.BM
open Go.RowKit Go.Proofs.Ybulkaggi Go.Sort Go.Shelf Go.Lib
open Go.Proofs.Ybulkaggi.CE (hlt tag_ne own_tag own_keep size_set rgOf)
set_option linter.unusedVariables false
set_option maxRecDepth 100000

theorem ad_mem {α : Type} {q : Bool} {x y : α} (h : y ∈ ad q x) : y = x := by
  unfold ad at h
  split at h
  · exact List.mem_singleton.1 h
  · simp at h
theorem key_len (M : Md) (bf af : T3 → Bool) (k : Key) (h : k ∈ allT.flatMap M.k0 ++ kW bf af) : k.2.2.2.length = 1 ∨ k.2.2.2.length = 2 := by
  rcases List.mem_append.1 h with h | h
  · obtain ⟨t, _, h⟩ := List.mem_flatMap.1 h
    unfold Md.k0 at h
    split at h
    · unfold Md.k1 at h
      rcases List.mem_append.1 h with h | h
      · rw [ad_mem h]
        exact .inl rfl
      · rw [ad_mem h]
        exact .inl rfl
    · simp at h
  · rw [kW_flat] at h
    obtain ⟨t, _, h⟩ := List.mem_flatMap.1 h
    obtain ⟨j, _, h⟩ := List.mem_flatMap.1 h
    unfold k2 at h
    rw [ad_mem h]
    exact .inr rfl
theorem kW_len (bf af : T3 → Bool) : (kW bf af).length ≤ 144 := flat_le _ 36 (fun x => kA_len _ _ _) 4

set_option maxHeartbeats 4000000 in
theorem l_r13 {QQ : Exit → Act → World → Prop} {gL cL gM cM nn t : Nat} {x y : An2} {w : World} {y0 y1 y2 y3 y7 y8 y9 y10 y11 y12 y13 y14 y15 y16 y17 y18 y19 y20 y21 y22 y23 y24 y25 y26 y27 y28 y29 y30 y31 y32 y33 y34 y35 y36 y37 y38 y39 y40 y41 y42 : Value}
    (ht : t < nn) (e0 : w.cell? ⟨gL, t * 4, none⟩ = some (.string (kB x.k))) (e1 : w.cell? ⟨gL, t * 4 + 1, none⟩ = some (.int .i64 x.a)) (e2 : w.cell? ⟨gL, t * 4 + 2, none⟩ = some (.int .i64 x.b)) (e3 : w.cell? ⟨gL, t * 4 + 3, none⟩ = some (.slice (some ⟨x.g, 0, none⟩) x.is.length x.is.length))
    (f0 : w.cell? ⟨gM, t * 4, none⟩ = some (.string (kB y.k))) (f1 : w.cell? ⟨gM, t * 4 + 1, none⟩ = some (.int .i64 y.a)) (f2 : w.cell? ⟨gM, t * 4 + 2, none⟩ = some (.int .i64 y.b)) (f3 : w.cell? ⟨gM, t * 4 + 3, none⟩ = some (.slice (some ⟨y.g, 0, none⟩) y.is.length y.is.length)) (ix : Good w x) (iy : Good w y) (hz : cmpN (kn x.k0) (kn y.k0) = 0) (lL : gL < w.heap.size) (lM : gM < w.heap.size)
    (hK : ∀ (t33 t34 t35 t36 t37 t38 t39 t40 t41 : Value) (wx : World), Below w.heap.size w wx → QQ .normal { tmps := List.toArray (y0 :: y1 :: y2 :: y3 :: (.slice (some ⟨gL, 0, none⟩) nn cL) :: (.slice (some ⟨gM, 0, none⟩) nn cM) :: (.int .i64 (t : Int)) :: y7 :: y8 :: y9 :: y10 :: y11 :: y12 :: y13 :: y14 :: y15 :: y16 :: y17 :: y18 :: y19 :: y20 :: y21 :: y22 :: y23 :: y24 :: y25 :: y26 :: y27 :: y28 :: y29 :: y30 :: y31 :: y32 :: (t33) :: (t34) :: (t35) :: (t36) :: (t37) :: (t38) :: (t39) :: (t40) :: (t41) :: (.bool false) :: []), defers := [] } wx) :
    Code.wp Yba.prog (rgOf Yba.f5.body 13) QQ { tmps := List.toArray (y0 :: y1 :: y2 :: y3 :: (.slice (some ⟨gL, 0, none⟩) nn cL) :: (.slice (some ⟨gM, 0, none⟩) nn cM) :: (.int .i64 (t : Int)) :: y7 :: y8 :: y9 :: y10 :: y11 :: y12 :: y13 :: y14 :: y15 :: y16 :: y17 :: y18 :: y19 :: y20 :: y21 :: y22 :: y23 :: y24 :: y25 :: y26 :: y27 :: y28 :: y29 :: y30 :: y31 :: y32 :: y33 :: y34 :: y35 :: y36 :: y37 :: y38 :: y39 :: y40 :: y41 :: y42 :: []), defers := [] } w := by
  have HK := hide hK
  clear hK
  have ht' : (t : Int) < (nn : Int) := by omega
  have C17 := hide (cmp17 x y w.drew ix.1 iy.1 ix.2 iy.2)
  rw [hz] at C17
  clear ix iy hz
  generalize kB x.k = k1 at *
  generalize kB y.k = k2 at *
  generalize x.a = a1 at *
  generalize y.a = a2 at *
  generalize x.b = b1 at *
  generalize y.b = b2 at *
  generalize x.is.length = n1 at *
  generalize y.is.length = n2 at *
  generalize x.g = g1 at *
  generalize y.g = g2 at *
  conv => arg 2; whnf
  refine wp_region_noPanic ?_
  go_region_held3 (fun X => X.cell? ⟨gL, t * 4, none⟩ = some (.string k1) ∧ X.cell? ⟨gL, t * 4 + 1, none⟩ = some (.int .i64 a1) ∧ X.cell? ⟨gL, t * 4 + 2, none⟩ = some (.int .i64 b1) ∧ X.cell? ⟨gL, t * 4 + 3, none⟩ = some (.slice (some ⟨g1, 0, none⟩) n1 n1) ∧ X.cell? ⟨gM, t * 4, none⟩ = some (.string k2) ∧ X.cell? ⟨gM, t * 4 + 1, none⟩ = some (.int .i64 a2) ∧ X.cell? ⟨gM, t * 4 + 2, none⟩ = some (.int .i64 b2) ∧ X.cell? ⟨gM, t * 4 + 3, none⟩ = some (.slice (some ⟨g2, 0, none⟩) n2 n2)) (go_keep)
    ((go_at_call 17; refine C17.out.mono ?_; rintro e w' ⟨rfl, qq, os, hw'⟩; have hb' : Below w.heap.size w w' := below_of_drew (by rw [hw']; exact below_grow w.drew qq os); clear hw'; have k0 := (hb'.cell (p := ⟨gL, t * 4, none⟩) lL).trans e0; have k1 := (hb'.cell (p := ⟨gL, t * 4 + 1, none⟩) lL).trans e1; have k2 := (hb'.cell (p := ⟨gL, t * 4 + 2, none⟩) lL).trans e2; have k3 := (hb'.cell (p := ⟨gL, t * 4 + 3, none⟩) lL).trans e3; have k4 := (hb'.cell (p := ⟨gM, t * 4, none⟩) lM).trans f0; have k5 := (hb'.cell (p := ⟨gM, t * 4 + 1, none⟩) lM).trans f1; have k6 := (hb'.cell (p := ⟨gM, t * 4 + 2, none⟩) lM).trans f2; have k7 := (hb'.cell (p := ⟨gM, t * 4 + 3, none⟩) lM).trans f3; have HB' := hide hb'; clear hb'))
  all_goals (try go_wp2_with fail)
  all_goals exact HK.out _ _ _ _ _ _ _ _ _ _ HB'.out

set_option maxHeartbeats 4000000 in
theorem law_main (a0 : Option Addr) (n c : Nat) (l0 : List O3) (w : World) (hn : n ≤ 256) (hl0 : InS w a0 n l0) :
    Calls Yba.prog 5 #[.slice a0 n c] w fun e w' => e = .returned (.bool true) ∧ Below w.heap.size w w' := by
  have t0 : ¬ ((256 : Int) < (n : Int)) := by omega
  have C13 := hide (bops_any a0 n c l0 w hn hl0)
  have hlen := hl0.len
  clear hl0
  go_enter Yba.func5, Yba.ntmps5
  go_upto_region 4 with (go_at_call 13; refine C13.out.mono ?_; rintro e w1 ⟨g, rfl, hop, hg0, hg1, hb1⟩)
  clear C13
  obtain ⟨L, hL⟩ : ∃ L, L = l0.map mk3 := ⟨_, rfl⟩
  rw [← hL] at hop
  have hll : L.length = n := by rw [hL]; simp [hlen]
  have HOP := hide hop
  have HLL := hide hll
  have HB1 := hide hb1
  clear hop hb1 hL hlen hll
  have C15 := hide (spans_any g n n L w1 hn HLL.out HOP.out hg1)
  go_upto_region 5 with (first
    | (go_at_call 15; refine C15.out.mono ?_; rintro e w2 ⟨mb, tb, f, l, a, rfl, hSp, hb2⟩; have HSP := hide hSp; have HB2 := hide hb2; have C14 := hide (pairs_any g n n mb _ L tb f l a w2 hn HLL.out (HOP.out.keep (hb2.block g hg1)) (Nat.lt_of_lt_of_le hg1 hb2.size) hSp); clear hSp hb2)
    | (go_at_call 14; refine C14.out.mono ?_; rintro e w3 ⟨vP, rfl, hP⟩; have HP := hide hP; clear hP))
  clear C15 C14
  have hb3 := HP.out.bel
  have C16 := hide (model_any g n n L w3 hn HLL.out (HOP.out.keep ((hb3.block g (Nat.lt_of_lt_of_le hg1 HB2.out.size)).trans (HB2.out.block g hg1))) (Nat.lt_of_lt_of_le hg1 (Nat.le_trans HB2.out.size hb3.size)))
  clear hb3
  go_upto_region 6 with (go_at_call 16; refine C16.out.mono ?_; rintro e w4 ⟨vM, fM, M, rfl, q1, q2, q3, q4, q5, q6⟩)
  obtain ⟨⟨fP, D, p1, p2, p3, p4, p5⟩, p6⟩ := HP.out
  have hperm : (fP.map An2.key).Perm (fM.map An2.key) := by
    rw [q5]
    exact p5.trans (plain_law HOP.out.ok (Same.of HOP.out.ok HSP.out q3 q4) p3 p4)
  have hlen : fP.length = fM.length := by have := hperm.length_eq; simpa using this
  have gM : ∀ x ∈ fM, x.is.length = 1 ∨ x.is.length = 2 := fun x hx => key_len M _ _ x.key (by rw [← q5]; exact List.mem_map.2 ⟨x, hx, rfl⟩)
  have gP : ∀ x ∈ fP, x.is.length = 1 ∨ x.is.length = 2 := fun x hx => key_len M _ _ x.key (by rw [← q5]; exact hperm.subset (List.mem_map.2 ⟨x, hx, rfl⟩))
  have hsmall : fM.length ≤ 1000 := by
    have h1 := congrArg List.length q5
    have h2 := done_len M allT
    have h3 : allT.length = 48 := by decide
    have h4 := kW_len (M.bf allT) (M.af allT)
    rw [List.length_map, List.length_append] at h1
    omega
  have AP : AnsN w4 w2.heap.size vP fP := AnsN.below (w := w3) ⟨p1, fun x hx => ⟨⟨(p2 x hx).1, gP x hx⟩, (p2 x hx).2⟩⟩ q6
  have AM : AnsN w4 w3.heap.size vM fM := ⟨q1, fun x hx => ⟨⟨(q2 x hx).1, gM x hx⟩, (q2 x hx).2⟩⟩
  have own3 := p1
  obtain ⟨pa, pc, hvP⟩ := own_shape p1
  obtain ⟨ma, mc, hvM⟩ := own_shape q1
  have hs2 : w.heap.size ≤ w2.heap.size := Nat.le_trans HB1.out.size HB2.out.size
  have hs3 : w.heap.size ≤ w3.heap.size := Nat.le_trans hs2 p6.size
  have HB4 := hide (show Below w.heap.size w w4 from HB1.out.trans ((HB2.out.mono HB1.out.size).trans ((p6.mono hs2).trans (q6.mono hs3))))
  have HAP := hide AP
  have HAM := hide AM
  have HPERM := hide hperm
  have HOWN := hide own3
  subst hvP
  subst hvM
  clear q1 q2 q3 q4 q5 q6 p1 p2 p3 p4 p5 p6 gM gP AP AM hperm own3 C16 HP HSP HB2 HB1 HOP
  have hne' : ((fP.length : Int) != (fM.length : Int)) = false := by rw [hlen]; simp
  rcases Nat.eq_zero_or_pos fP.length with hz | hz
  · have hz' : fM.length = 0 := by omega
    obtain rfl : fP = [] := List.eq_nil_of_length_eq_zero hz
    obtain rfl : fM = [] := List.eq_nil_of_length_eq_zero hz'
    clear hlen hz hz' hne'
    go_wp2_with (go_at_call 9; refine (sort_an2_none _ _ _).mono ?_; rintro e w' ⟨rfl, hw⟩; obtain rfl := hw.symm)
    go_loopw [6] (fun q wx => q = .int .i64 0 ∧ wx = w4) (fun _ _ => 0)
    case atStart => exact ⟨rfl, rfl⟩
    case round =>
      obtain ⟨rfl, hw⟩ := hrel
      obtain rfl := hw.symm
      go_wp2
      go_ret
      exact ⟨rfl, HB4.out⟩
  · have hz' : 0 < fM.length := by omega
    obtain ⟨gL, cL, eL⟩ := own_some HAP.out.row hz
    obtain ⟨gM, cM, eM⟩ := own_some HAM.out.row hz'
    simp only [Value.slice.injEq, true_and] at eL eM
    obtain ⟨rfl, rfl⟩ := eL
    obtain ⟨rfl, rfl⟩ := eM
    have S1 := hide (sort_an2 gL pc _ fP w4 hz (by omega) HAP.out)
    have hgg : gL ≠ gM := by
      have a := (HOWN.out.lt gL rfl).2
      have b := (HAM.out.row.lt gM rfl).1
      omega
    have lgL := (HAP.out.row.lt gL rfl)
    have lgM := (HAM.out.row.lt gM rfl)
    have HLEN := hide hlen
    have hMm : fM.length ≤ 65536 := by omega
    clear hlen
    go_upto_region 9 with (go_at_call 9; refine S1.out.mono ?_; rintro e w5 ⟨rfl, L5, pL, sL, aL, tL⟩; have HSL := hide sL; clear sL)
    obtain ⟨csL, hcsL⟩ := own_tag HAP.out.row (k := gL) rfl
    have AM5 := HAM.out.at1 tL hcsL (by simp [Value.ownBlock, Ne.symm hgg])
    have S2 := hide (sort_an2 gM mc _ fM w5 hz' hMm AM5)
    have HX := hide (And.intro pL (And.intro aL tL))
    have HAM5 := hide AM5
    clear pL aL tL AM5 S1 hcsL
    go_upto_region 10 with (go_at_call 9; refine S2.out.mono ?_; rintro e w6 ⟨rfl, M6, pM, sM, aM, tM⟩; have HSM := hide sM; clear sM)
    obtain ⟨pL, aL, tL⟩ := HX.out
    obtain ⟨csM, hcsM⟩ := own_tag HAM5.out.row (k := gM) rfl
    have e5 : L5.length = fP.length := pL.length_eq
    have e6 : M6.length = fM.length := pM.length_eq
    have aL6 : AnsN w6 w2.heap.size (.slice (some ⟨gL, 0, none⟩) L5.length pc) L5 := by
      rw [e5]
      exact aL.at1 tM hcsM (by simp [Value.ownBlock, hgg])
    have aM6 : AnsN w6 w3.heap.size (.slice (some ⟨gM, 0, none⟩) M6.length mc) M6 := by
      rw [e6]; exact aM
    have hpp : (L5.map An2.k0).Perm (M6.map An2.k0) := (pL.map _).trans (HPERM.out.trans (pM.map _).symm)
    have sL : L5.Pairwise (fun x y => ¬ cmpN (kn y.k0) (kn x.k0) < 0) := by simpa only [Int.not_lt] using HSL.out
    have sM : M6.Pairwise (fun x y => ¬ cmpN (kn y.k0) (kn x.k0) < 0) := by simpa only [Int.not_lt] using HSM.out
    have HAG := hide (fun k h1 h2 => agreeN hpp sL sM k h1 h2)
    have HLA := hide (And.intro aL6 aM6)
    have sz4 : w.heap.size ≤ w4.heap.size := HB4.out.size
    have HB6 := hide (show Below w.heap.size w w6 from HB4.out.trans ((tL.below (Nat.le_trans hs2 lgL.1) sz4).trans (tM.below (Nat.le_trans hs3 lgM.1) (Nat.le_trans sz4 tL.size))))
    have HE := hide (And.intro e5 (And.intro e6 HLEN.out))
    clear sL sM pL aL tL pM aM tM hpp aL6 aM6 S2 HX HAM5 hcsM e5 e6
    obtain ⟨nn, hnn⟩ : ∃ q, fP.length = q := ⟨_, rfl⟩
    have hnm : fM.length = nn := by have := HE.out; omega
    have HNN := hide (And.intro hnn hnm)
    have hnb : nn ≤ 65536 := by omega
    rw [hnn, hnm]
    clear hnn hnm hz hz' hMm lgL lgM hsmall hne'
    go_wp2
    go_loopw [6] (fun q wx => ∃ k : Nat, k ≤ nn ∧ q = .int .i64 k ∧ Below w6.heap.size w6 wx) (fun q _ => nn - (intOf q).toNat)
    case atStart => exact ⟨0, Nat.zero_le _, rfl, Below.refl _ _⟩
    case round =>
      obtain ⟨t, ht, rfl, hBt⟩ := hrel
      by_cases htl : t < nn
      · have htl' : (t : Int) < (nn : Int) := by omega
        have tL5 : t < L5.length := by have := HE.out; have := HNN.out; omega
        have tM6 : t < M6.length := by have := HE.out; have := HNN.out; omega
        have HT := hide (And.intro tL5 tM6)
        have HBt := hide hBt
        have aLt := HLA.out.1.below hBt
        have aMt := HLA.out.2.below hBt
        have HALT := hide aLt
        have HAMT := hide aMt
        clear hBt aLt aMt
        go_upto_region 13 with fail
        refine l_r13 (gL := gL) (cL := pc) (gM := gM) (cM := mc) (nn := nn) (t := t) (x := L5[t]) (y := M6[t]) htl (HALT.out.cells t tL5).1 (HALT.out.cells t tL5).2.1 (HALT.out.cells t tL5).2.2.1 (HALT.out.cells t tL5).2.2.2 (HAMT.out.cells t tM6).1 (HAMT.out.cells t tM6).2.1 (HAMT.out.cells t tM6).2.2.1 (HAMT.out.cells t tM6).2.2.2 (HALT.out.items _ (List.getElem_mem tL5)).1 (HAMT.out.items _ (List.getElem_mem tM6)).1 (HAG.out t tL5 tM6) (HALT.out.row.lt gL rfl).2 (HAMT.out.row.lt gM rfl).2 ?_
        intro t33 t34 t35 t36 t37 t38 t39 t40 t41 wx hBc
        have G := hide (HBt.out.trans (hBc.mono HBt.out.size))
        clear hBc
        go_wp2
        go_roundw
        case rel => exact ⟨t + 1, by omega, by go_num, G.out⟩
        case measure => simp [intOf]; omega
      · have htl' : ¬ (t : Int) < (nn : Int) := by omega
        have G := hide (HB6.out.trans (hBt.mono HB6.out.size))
        clear hBt
        go_wp2
        go_ret
        exact ⟨rfl, G.out⟩
theorem law_long (a0 : Option Addr) (n c : Nat) (w : World) (h : 256 < n) :
    Calls Yba.prog 5 #[.slice a0 n c] w fun e w' => e = .returned (.bool true) ∧ Below w.heap.size w w' := by
  have h' : (256 : Int) < (n : Int) := by omega
  go_enter Yba.func5, Yba.ntmps5
  go_wp2
  go_ret
  exact ⟨rfl, Below.refl _ _⟩
end Go.Proofs.Ybulkaggi.BM

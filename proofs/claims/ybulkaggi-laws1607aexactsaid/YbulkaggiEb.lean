import Derived.Test.YbulkaggiEa
import Derived.Test.YbulkaggiE8
namespace Go.Proofs.Ybulkaggi
open Go.RowKit Go.Sort
set_option linter.unusedVariables false
set_option maxRecDepth 100000

theorem own_weaken {w : World} {base base' : Nat} {e : TypeId} {size : Nat} {v : Value} {n : Nat} {xs : List Value} (h : w.ownsRow base e size v n xs) (hb : base' ≤ base) : w.ownsRow base' e size v n xs := by
  refine ⟨h.1, ?_⟩
  rcases h.2 with h0 | ⟨g, cap, cur, e, h1, rest⟩
  · exact .inl h0
  · exact .inr ⟨g, cap, cur, e, Nat.le_trans hb h1, rest⟩
theorem own_below {w w' : World} {base : Nat} {e : TypeId} {size : Nat} {v : Value} {n : Nat} {xs : List Value} (h : w.ownsRow base e size v n xs) (hb : Below w.heap.size w w') : w'.ownsRow base e size v n xs := by
  refine ⟨h.1, ?_⟩
  rcases h.2 with h0 | ⟨g, cap, cur, e, h1, hg, rest⟩
  · exact .inl h0
  · exact .inr ⟨g, cap, cur, e, h1, (hb.block g (Array.getElem?_eq_some_iff.1 hg).1).trans hg, rest⟩
theorem InH.below {w w' : World} {a : Option Addr} {n : Nat} {l : List H} (h : InH w a n l) (hb : Below w.heap.size w w') : InH w' a n l := ⟨h.len, fun h0 => by
  obtain ⟨b, off, h1, h2, h3⟩ := h.at_ h0
  refine ⟨b, off, h1, Nat.lt_of_lt_of_le h2 hb.size, fun i hi => ?_⟩
  obtain ⟨e0, e1, e2⟩ := h3 i hi
  exact ⟨(hb.cell (p := ⟨b, off + i * 3, none⟩) h2).trans e0, (hb.cell (p := ⟨b, off + i * 3 + 1, none⟩) h2).trans e1, (hb.cell (p := ⟨b, off + i * 3 + 2, none⟩) h2).trans e2⟩⟩

def SrtA (L : List An) : Prop := L.Pairwise (fun x y => ¬ cmpD y.1 x.1 < 0)

theorem Ans.keep' {w w' : World} {base : Nat} {v : Value} {L : List An} (h : Ans w base v L) (hb : Below w.heap.size w w') : Ans w' base v L := h.keep hb

set_option maxHeartbeats 2000000 in
theorem exact_main (a0 : Option Addr) (n0 c0 : Nat) (l0 : List H) (a1 : Option Addr) (n1 c1 : Nat) (l1 : List H) (w : World) (h0 : InH w a0 n0 l0) (h1 : InH w a1 n1 l1) (hn0 : n0 ≤ 256) (hn1 : n1 ≤ 256) :
    Calls Yba.prog 3 #[.slice a0 n0 c0, .slice a1 n1 c1] w fun e w' => e = .returned (.bool true) ∧ Below w.heap.size w w' := by
  have t0 : ¬ ((256 : Int) < (n0 : Int)) := by omega
  have t1 : ¬ ((256 : Int) < (n1 : Int)) := by omega
  have HC0 := hide (conv_any a0 n0 c0 l0 w hn0 h0)
  have HC1 := hide (fun w1 (hb : Below w.heap.size w w1) => conv_any a1 n1 c1 l1 w1 hn1 (h1.below hb))
  have HPH := hide (fun g0 c0 g1 c1 w2 o0 o1 hne hb => phantom_loop g0 c0 n0 g1 c1 n1 [] [] w2 w.heap.size l0 l1 o0 o1 hne h0.len h1.len hn0 hn1 hb)
  have HI := hide (And.intro h0 h1)
  have ll0 := h0.len
  have ll1 := h1.len
  clear h0 h1
  go_enter Yba.func3, Yba.ntmps3
  go_upto_region 4 with (first
    | (go_at_call 8; refine (unhide HC0).mono ?_; rintro e w1 ⟨g0, cp0, rfl, o0, hb1⟩; have HO0 := hide o0; have HB1 := hide hb1; clear o0 hb1 HC0)
    | (go_at_call 8; refine (unhide HC1 _ (unhide HB1)).mono ?_; rintro e w2 ⟨g1, cp1, rfl, o1, hb2⟩; have HO1 := hide o1; have HB2 := hide hb2; clear o1 hb2))
  have hne : g0 ≠ g1 := by
    have a := ((unhide HO0).lt g0 rfl).2
    have b := ((unhide HO1).lt g1 rfl).1
    omega
  have P7 := unhide HPH g0 cp0 g1 cp1 w2 (own_below (unhide HO0) (unhide HB2)) (own_weaken (unhide HO1) (unhide HB1).size) hne (Nat.le_trans (unhide HB1).size (unhide HB2).size)
  refine P7.mono ?_
  rintro e w3 ⟨v3, L, rfl, hA3, hperm, hB3⟩
  obtain ⟨av3, cv3, rfl⟩ := own_shape hA3.row
  have hB03 : Below w.heap.size w w3 := (unhide HB1).trans (((unhide HB2).mono (unhide HB1).size).trans hB3)
  have HA3 := hide hA3
  have HBGL : Hid (w.heap.size ≤ w2.heap.size) := Nat.le_trans (unhide HB1).size (unhide HB2).size
  have HPM := hide hperm
  have HB03 := hide hB03
  have sz3 := hB03.size
  have hlenL : L.length = (prs l0 l1).length := by have := hperm.length_eq; simpa using this
  have HLL := hide hlenL
  clear P7 hne HO0 HO1 HB1 HB2 HPH HC1 hA3 hperm hB3 hlenL
  go_wp2
  go_loopw [6, 27] (fun v q wx => ∃ (k : Nat) (M : List An), k ≤ n0 ∧ q = .int .i64 k ∧ Ans wx w3.heap.size v M ∧ M.map (·.1) = prs (l0.take k) l1 ∧ M.length ≤ 256 * k ∧ Below w3.heap.size w3 wx) (fun _ q _ => n0 - (intOf q).toNat)
  case atStart => exact ⟨0, [], Nat.zero_le _, rfl, Ans.nil _ _, by simp [prs], by simp, Below.refl _ _⟩
  case round =>
    obtain ⟨k, M, hk, rfl, hAm, hMm, hlm, hBm⟩ := hrel
    obtain ⟨am, cm, rfl⟩ := own_shape hAm.row
    have szm := hBm.size
    have hBw : Below w.heap.size w wr := (unhide HB03).trans (hBm.mono sz3)
    by_cases hkl : k < n0
    · have hkl' : (k : Int) < (n0 : Int) := by omega
      obtain ⟨b, off, ha, hb, hc⟩ := HI.out.1.at_ (by omega)
      subst ha
      obtain ⟨q0, q1, q2⟩ := hc k (by omega)
      replace q0 := (hBw.cell (p := ⟨b, off + k * 3, none⟩) hb).trans q0
      replace q1 := (hBw.cell (p := ⟨b, off + k * 3 + 1, none⟩) hb).trans q1
      replace q2 := (hBw.cell (p := ⟨b, off + k * 3 + 2, none⟩) hb).trans q2
      obtain ⟨⟨xu, yu, su⟩, hxu⟩ : ∃ r, l0[k]'(by omega) = r := ⟨_, rfl⟩
      rw [hxu] at q0 q1 q2
      simp only [] at q0 q1 q2
      have STEPU : Hid (l0.take (k + 1) = l0.take k ++ [(xu, yu, su)]) := by
        show _ = _
        rw [List.take_succ_eq_append_getElem (by omega), hxu]
      have HAM := hide hAm
      have HMM := hide hMm
      have HBM := hide hBm
      clear hxu hAm hMm hc
      go_upto_region 8 with fail
      have hub : (wr.alloc (.cells #[.int .i64 xu, .int .i64 yu, .string su] 28)).heap[wr.heap.size]? = some (.cells #[.int .i64 xu, .int .i64 yu, .string su] 28 (0, 0)) := heap_alloc_new wr _
      have hbu : Below wr.heap.size wr (wr.alloc (.cells #[.int .i64 xu, .int .i64 yu, .string su] 28)) := (Below.refl _ _).alloc (Nat.le_refl _) _
      have hAu := hide ((unhide HAM).keep hbu)
      have hBu := hide ((unhide HBM).trans (hbu.mono szm))
      generalize hub0 : wr.heap.size = ub at *
      have hubw : w3.heap.size ≤ ub := by omega
      generalize wr.alloc (.cells #[.int .i64 xu, .int .i64 yu, .string su] 28) = Wu at *
      have HUB := hide hub
      clear hub hbu HBM HAM szm hub0 q0 q1 q2 hBm hBw
      go_wp2
      go_loopw [6, 33] (fun v q wx => ∃ (q' : Nat) (M2 : List An), q' ≤ n1 ∧ q = .int .i64 q' ∧ Ans wx w3.heap.size v M2 ∧ M2.map (·.1) = M.map (·.1) ++ ((l1.take q').filter (hit (xu, yu, su))).map (mkD (xu, yu, su)) ∧ M2.length ≤ M.length + q' ∧ Below w3.heap.size w3 wx ∧ wx.heap[ub]? = some (.cells #[.int .i64 xu, .int .i64 yu, .string su] 28 (0, 0))) (fun _ q _ => n1 - (intOf q).toNat)
      case atStart => exact ⟨0, M, Nat.zero_le _, rfl, unhide hAu, by simp, by omega, unhide hBu, unhide HUB⟩
      case round =>
        obtain ⟨q', M2, hq', rfl, hAq, hLq, hlq, hBq, hubq⟩ := hrel
        obtain ⟨aq, cq, rfl⟩ := own_shape hAq.row
        have szq := hBq.size
        have u0 : wr.cell? ⟨ub, 0, none⟩ = some (.int .i64 xu) := (cell_at hubq 0).trans rfl
        have u1 : wr.cell? ⟨ub, 1, none⟩ = some (.int .i64 yu) := (cell_at hubq 1).trans rfl
        have u2 : wr.cell? ⟨ub, 2, none⟩ = some (.string su) := (cell_at hubq 2).trans rfl
        have lub : ub < wr.heap.size := (Array.getElem?_eq_some_iff.1 hubq).1
        by_cases hql : q' < n1
        · have hql' : (q' : Int) < (n1 : Int) := by omega
          have hBw2 : Below w.heap.size w wr := (unhide HB03).trans (hBq.mono sz3)
          obtain ⟨b1, off1, ha1, hb1, hc1⟩ := HI.out.2.at_ (by omega)
          subst ha1
          obtain ⟨q0, q1, q2⟩ := hc1 q' (by omega)
          replace q0 := (hBw2.cell (p := ⟨b1, off1 + q' * 3, none⟩) hb1).trans q0
          replace q1 := (hBw2.cell (p := ⟨b1, off1 + q' * 3 + 1, none⟩) hb1).trans q1
          replace q2 := (hBw2.cell (p := ⟨b1, off1 + q' * 3 + 2, none⟩) hb1).trans q2
          obtain ⟨⟨xv, yv, sv⟩, hxv⟩ : ∃ r, l1[q']'(by omega) = r := ⟨_, rfl⟩
          rw [hxv] at q0 q1 q2
          simp only [] at q0 q1 q2
          have STEP : Hid (l1.take (q' + 1) = l1.take q' ++ [(xv, yv, sv)]) := by
            show _ = _
            rw [List.take_succ_eq_append_getElem (by omega), hxv]
          have HAQ := hide hAq
          have HLQ := hide hLq
          have HBQ := hide hBq
          have HUBQ := hide hubq
          clear hAq hLq hxv hubq hc1 hBw2
          by_cases hh : hit (xu, yu, su) (xv, yv, sv) = true
          · have hp : xu = xv ∧ yu = yv ∧ (su.toList == sv.toList) = false := by
              simp only [hit, same, other, Bool.and_eq_true, decide_eq_true_eq, Bool.not_eq_true'] at hh
              exact ⟨hh.1.1, hh.1.2, hh.2⟩
            obtain ⟨e1, e2, e3⟩ := hp
            subst e1
            subst e2
            have HHIT := hide hh
            clear hh
            go_upto_region 12 with fail
            have hbv : Below wr.heap.size wr (wr.alloc (.cells #[.int .i64 xu, .int .i64 yu, .string sv] 28)) := (Below.refl _ _).alloc (Nat.le_refl _) _
            have hvb : (wr.alloc (.cells #[.int .i64 xu, .int .i64 yu, .string sv] 28)).heap[wr.heap.size]? = some (.cells #[.int .i64 xu, .int .i64 yu, .string sv] 28 (0, 0)) := heap_alloc_new wr _
            have y2 : (wr.alloc (.cells #[.int .i64 xu, .int .i64 yu, .string sv] 28)).cell? ⟨wr.heap.size, 2, none⟩ = some (.string sv) := (cell_at hvb 2).trans rfl
            have t0 := (hbv.cell (p := ⟨ub, 0, none⟩) lub).trans u0
            have t1 := (hbv.cell (p := ⟨ub, 1, none⟩) lub).trans u1
            have t2 := (hbv.cell (p := ⟨ub, 2, none⟩) lub).trans u2
            have HAY := hide ((unhide HAQ).keep hbv)
            have HBY := hide ((unhide HBQ).trans (hbv.mono szq))
            have HUY := hide ((hbv.block ub lub).trans (unhide HUBQ))
            have szY : wr.heap.size + 1 = (wr.alloc (.cells #[.int .i64 xu, .int .i64 yu, .string sv] 28)).heap.size := by simp
            have HSZ : Hid (w3.heap.size ≤ (wr.alloc (.cells #[.int .i64 xu, .int .i64 yu, .string sv] 28)).heap.size) := by show _ ≤ _; omega
            have HLT : Hid (ub < (wr.alloc (.cells #[.int .i64 xu, .int .i64 yu, .string sv] 28)).heap.size ∧ wr.heap.size < (wr.alloc (.cells #[.int .i64 xu, .int .i64 yu, .string sv] 28)).heap.size) := by show _ ∧ _; omega
            clear hbv hvb u0 u1 u2 HAQ HBQ HUBQ szq hBq q0 q1 q2
            generalize hvb0 : wr.heap.size = vb at *
            generalize wr.alloc (.cells #[.int .i64 xu, .int .i64 yu, .string sv] 28) = Y at *
            clear szY hvb0 lub
            have lt1 : ub < Y.heap.size := HLT.out.1
            have lt2 : vb < Y.heap.size := HLT.out.2
            obtain ⟨i0, hi0, hz0, hz1, hz2⟩ := info_at info32
            have hrow := (unhide HAY).row
            have hlen2 : M2.length ≤ 65536 := by omega
            go_wp2_with (at_builtin; refine wpList_append_own _ rfl _ _ 23 rfl w3.heap.size 32 i0 _ 4 56 Yba.underlying23 hi0 hz0 hz1 hz2 rfl (by decide) _ _ _ rfl ((hrow.alloc _).alloc _) ⟨Y.heap.size + 1, 0, none⟩ 1 1 [.string kindV, .int .i64 xu, .int .i64 yu, .slice (some ⟨Y.heap.size, 0, none⟩) 2 2] rfl rfl ?gg1 ?gg2 ?gg3 ?gg4 ?gg5 ?_)
            all_goals (try (case gg1 => have h := news_at (Y.alloc (.cells #[.string su, .string sv] 9)) #[.string kindV, .int .i64 xu, .int .i64 yu, .slice (some ⟨Y.heap.size, 0, none⟩) 2 2] 32; simpa using h))
            case gg2 => first | exact ⟨rfl, rfl, rfl, rfl⟩ | (intro u hu; simp at hu; rcases hu with rfl | rfl | rfl | rfl <;> rfl)
            case gg3 => unfold maxLen; omega
            case gg4 => omega
            case gg5 => have := HSZ.out; simp; omega
            intro v' w9 ho9 hg9 _
            have PUSH := hide ((unhide HAY).push (a := xu) (b := yu) (s := su) (t := sv) HSZ.out ho9 hg9)
            obtain ⟨a9, c9, rfl⟩ := own_shape ho9
            have HB9 : Hid (Below w3.heap.size w3 w9) := (((unhide HBY).alloc HSZ.out _).alloc (by have := HSZ.out; simp; omega) _).grown hg9 (by have := HSZ.out; simp; omega) (fun x hx => (hrow.lt x hx).1)
            have HU9 : Hid (w9.heap[ub]? = some (.cells #[.int .i64 xu, .int .i64 yu, .string su] 28 (0, 0))) := by
              show _ = _
              rw [hg9.block ub (by simp; omega) (fun e => by
                obtain ⟨cs, hcs⟩ := own_block hrow e.symm
                rw [HUY.out] at hcs
                simp at hcs)]
              exact (Below.heap_alloc _ _ _ (by simp; omega)).trans ((Below.heap_alloc _ _ _ lt1).trans HUY.out)
            clear ho9 hg9 hrow
            go_wp2
            go_roundw
            case rel =>
              refine ⟨q' + 1, M2 ++ [((xu, yu, su, sv), Y.heap.size)], by omega, by go_num, unhide PUSH, ?_, by simp; omega, unhide HB9, unhide HU9⟩
              rw [STEP.out, List.filter_append, List.map_append, List.map_append, HLQ.out]
              simp [HHIT.out, mkD]
            case measure => simp [intOf]; omega
          · have HHIT : Hid (hit (xu, yu, su) (xv, yv, sv) = false) := by show _ = _; simpa using hh
            have hcs : (xu = xv ∧ yu = yv ∧ (su.toList == sv.toList) = true) ∨ (xu = xv ∧ ¬ yu = yv) ∨ ¬ xu = xv := by
              simp only [hit, same, other, Bool.and_eq_true, decide_eq_true_eq, Bool.not_eq_true'] at hh
              by_cases g1 : xu = xv
              · by_cases g2 : yu = yv
                · refine .inl ⟨g1, g2, ?_⟩
                  cases hq : (su.toList == sv.toList) with
                  | true => rfl
                  | false => exact absurd ⟨⟨g1, g2⟩, hq⟩ hh
                · exact .inr (.inl ⟨g1, g2⟩)
              · exact .inr (.inr g1)
            clear hh
            have REL : Hid (∃ (q2 : Nat) (M3 : List An), q2 ≤ n1 ∧ Value.int .i64 ((q' : Int) + 1) = Value.int .i64 q2 ∧ Ans (wr.alloc (.cells #[.int .i64 xv, .int .i64 yv, .string sv] 28)) w3.heap.size (.slice aq M2.length cq) M3 ∧ M3.map (·.1) = M.map (·.1) ++ ((l1.take q2).filter (hit (xu, yu, su))).map (mkD (xu, yu, su)) ∧ M3.length ≤ M.length + q2 ∧ Below w3.heap.size w3 (wr.alloc (.cells #[.int .i64 xv, .int .i64 yv, .string sv] 28)) ∧ (wr.alloc (.cells #[.int .i64 xv, .int .i64 yv, .string sv] 28)).heap[ub]? = some (.cells #[.int .i64 xu, .int .i64 yu, .string su] 28 (0, 0))) := by
              have hbv : Below wr.heap.size wr (wr.alloc (.cells #[.int .i64 xv, .int .i64 yv, .string sv] 28)) := (Below.refl _ _).alloc (Nat.le_refl _) _
              refine ⟨q' + 1, M2, by omega, by go_num, (unhide HAQ).keep hbv, ?_, by omega, (unhide HBQ).trans (hbv.mono szq), (hbv.block ub lub).trans (unhide HUBQ)⟩
              rw [STEP.out, List.filter_append, List.map_append, HLQ.out]
              simp [HHIT.out]
            clear HAQ HLQ HBQ HUBQ
            rcases hcs with ⟨e1, e2, e3⟩ | ⟨e1, e2⟩ | e1
            · subst e1
              subst e2
              go_wp2
              go_roundw
              case rel => exact unhide REL
              case measure => simp [intOf]; omega
            · subst e1
              go_wp2
              go_roundw
              case rel => exact unhide REL
              case measure => simp [intOf]; omega
            · go_wp2
              go_roundw
              case rel => exact unhide REL
              case measure => simp [intOf]; omega
        · have hql' : ¬ (q' : Int) < (n1 : Int) := by omega
          obtain rfl : q' = n1 := by omega
          have HAQ := hide hAq
          have HLQ := hide hLq
          have HBQ := hide hBq
          clear hAq hLq hBq hubq u0 u1 u2
          go_wp2
          go_roundw
          case rel =>
            refine ⟨k + 1, M2, by omega, by go_num, unhide HAQ, ?_, by omega, unhide HBQ⟩
            rw [STEPU.out, prs_append, HLQ.out, HMM.out, (List.take_of_length_le (by omega) : l1.take _ = l1)]
            simp [prs]
          case measure => simp [intOf]; omega
    · have hkl' : ¬ (k : Int) < (n0 : Int) := by omega
      obtain rfl : k = n0 := by omega
      rw [List.take_of_length_le (by omega)] at hMm
      have hlen : L.length = M.length := by
        rw [HLL.out, ← hMm]; simp
      have HAM := hide hAm
      have HMM := hide hMm
      have HBM := hide hBm
      clear hAm hMm hBm
      have szm := (unhide HBM).size
      have sz4 : w.heap.size ≤ wr.heap.size := Nat.le_trans sz3 szm
      have HA4 := hide ((unhide HA3).keep' (unhide HBM))
      have HBW := hide ((unhide HB03).trans ((unhide HBM).mono sz3))
      have hne' : ((L.length : Int) != (M.length : Int)) = false := by rw [hlen]; simp
      rcases Nat.eq_zero_or_pos L.length with hz | hz
      · have hz' : M.length = 0 := by omega
        obtain rfl : L = [] := List.eq_nil_of_length_eq_zero hz
        obtain rfl : M = [] := List.eq_nil_of_length_eq_zero hz'
        clear hlen hz hz' hne'
        go_wp2_with (go_at_call 9; refine (sort_an_none _ _ _).mono ?_; rintro e w' ⟨rfl, hw⟩; obtain rfl := hw.symm)
        go_loopw [11] (fun q wx => q = .int .i64 0 ∧ wx = wr) (fun _ _ => 0)
        case atStart => exact ⟨rfl, rfl⟩
        case round =>
          obtain ⟨rfl, hw⟩ := hrel
          obtain rfl := hw.symm
          go_wp2
          go_ret
          exact ⟨rfl, unhide HBW⟩
      · have hz' : 0 < M.length := by omega
        have hLm : L.length ≤ 65536 := by rw [HLL.out]; have := prs_len l0 l1; have h2 : l0.length * l1.length ≤ 256 * 256 := Nat.mul_le_mul (by omega) (by omega); omega
        obtain ⟨gL, cL, eL⟩ := (unhide HA4).some hz
        obtain ⟨gM, cM, eM⟩ := (unhide HAM).some hz'
        simp only [Value.slice.injEq, true_and] at eL eM
        obtain ⟨rfl, rfl⟩ := eL
        obtain ⟨rfl, rfl⟩ := eM
        have S1 := hide (sort_an gL cv3 _ L wr hz hLm (unhide HA4))
        have hgg : gL ≠ gM := by
          have a := ((unhide HA3).row.lt gL rfl).2
          have b := ((unhide HAM).row.lt gM rfl).1
          omega
        have lgL := ((unhide HA4).row.lt gL rfl)
        have lgM := ((unhide HAM).row.lt gM rfl)
        have HLEN := hide hlen
        have hMm : M.length ≤ 65536 := by omega
        clear hlen
        go_upto_region 18 with (go_at_call 9; refine (unhide S1).mono ?_; rintro e w5 ⟨rfl, L5, pL, sL, aL, tL⟩; have HSL : SrtA L5 := sL; clear sL)
        obtain ⟨csL, hcsL⟩ := own_block (unhide HA4).row (k := gL) rfl
        have AM5 := (unhide HAM).at1 tL hcsL (by simp [Value.ownBlock, Ne.symm hgg])
        have S2 := hide (sort_an gM cm _ M w5 hz' hMm AM5)
        have HX := hide (And.intro pL (And.intro aL tL))
        have HAM5 := hide AM5
        clear pL aL tL AM5 S1 hcsL
        go_upto_region 19 with (go_at_call 9; refine (unhide S2).mono ?_; rintro e w6 ⟨rfl, M6, pM, sM, aM, tM⟩; have HSM6 : SrtA M6 := sM; clear sM)
        obtain ⟨pL, aL, tL⟩ := HX.out
        obtain ⟨csM, hcsM⟩ := own_block (unhide HAM5).row (k := gM) rfl
        have e5 : L5.length = L.length := pL.length_eq
        have e6 : M6.length = M.length := pM.length_eq
        have aL6 : Ans w6 w2.heap.size (.slice (some ⟨gL, 0, none⟩) L5.length cv3) L5 := by
          rw [e5]
          exact aL.at1 tM hcsM (by simp [Value.ownBlock, hgg])
        have aM6 : Ans w6 w3.heap.size (.slice (some ⟨gM, 0, none⟩) M6.length cm) M6 := by
          rw [e6]; exact aM
        have hpp : (L5.map (·.1)).Perm (M6.map (·.1)) := (pL.map _).trans (HPM.out.trans (by rw [← HMM.out]; exact (pM.map _).symm))
        have HAG := hide (fun k h1 h2 => agree hpp HSL HSM6 k h1 h2)
        have HLA := hide (And.intro aL6 aM6)
        have HB6 : Hid (Below w.heap.size w w6) := (unhide HBW).trans ((tL.below (Nat.le_trans HBGL.out lgL.1) sz4).trans (tM.below (Nat.le_trans sz3 lgM.1) (Nat.le_trans sz4 tL.size)))
        have hlm : L.length = M.length := HLEN.out
        have HE := hide (And.intro e5 (And.intro e6 hlm))
        clear pL aL tL pM aM tM hpp aL6 aM6 S2 HX HAM5 hcsM hlm e5 e6 HSL HSM6
        obtain ⟨nn, hnn⟩ : ∃ q, L.length = q := ⟨_, rfl⟩
        have hnm : M.length = nn := by have := HE.out; omega
        have HNN := hide (And.intro hnn hnm)
        have hnb : nn ≤ 65536 := by omega
        rw [hnn, hnm]
        clear hnn hnm hz hz' hLm hMm lgL lgM
        go_wp2
        go_loopw [11] (fun q wx => ∃ k : Nat, k ≤ nn ∧ q = .int .i64 k ∧ Below w6.heap.size w6 wx) (fun q _ => nn - (intOf q).toNat)
        case atStart => exact ⟨0, Nat.zero_le _, rfl, Below.refl _ _⟩
        case round =>
          obtain ⟨t, ht, rfl, hBt⟩ := hrel
          by_cases htl : t < nn
          · have htl' : (t : Int) < (nn : Int) := by omega
            obtain ⟨aL6, aM6⟩ := HLA.out
            have hz := HAG.out t (by have := HE.out; have := HNN.out; omega) (by have := HE.out; have := HNN.out; omega)
            have aLt := aL6.keep hBt
            have aMt := aM6.keep hBt
            obtain ⟨e0, e1, e2, e3⟩ := aLt.cells t (by have := HE.out; have := HNN.out; omega)
            obtain ⟨f0, f1, f2, f3⟩ := aMt.cells t (by have := HE.out; have := HNN.out; omega)
            obtain ⟨⟨⟨x, y, s, z⟩, gx⟩, hx⟩ : ∃ r, L5[t]'(by have := HE.out; have := HNN.out; omega) = r := ⟨_, rfl⟩
            obtain ⟨⟨⟨x', y', s', z'⟩, gy⟩, hy⟩ : ∃ r, M6[t]'(by have := HE.out; have := HNN.out; omega) = r := ⟨_, rfl⟩
            have ix := (aLt.items _ (List.getElem_mem (by have := HE.out; have := HNN.out; omega : t < L5.length))).1
            have iy := (aMt.items _ (List.getElem_mem (by have := HE.out; have := HNN.out; omega : t < M6.length))).1
            rw [hx] at e1 e2 e3 hz ix
            rw [hy] at f1 f2 f3 hz iy
            simp only [] at e1 e2 e3 f1 f2 f3 hz
            have lL := (aLt.row.lt gL rfl).2
            have lM := (aMt.row.lt gM rfl).2
            have HIX := hide (And.intro ix iy)
            have HBt := hide hBt
            clear aL6 aM6 aLt aMt ix iy hx hy hBt
            go_upto_region 22 with fail
            go_cut [95] (fun v wx => v = .bool false ∧ Below wr.heap.size wr wx)
            case first =>
              go_region_held3 (fun X => X.cell? ⟨gL, t * 4, none⟩ = some (.string kindV) ∧ X.cell? ⟨gL, t * 4 + 1, none⟩ = some (.int .i64 x) ∧ X.cell? ⟨gL, t * 4 + 2, none⟩ = some (.int .i64 y) ∧ X.cell? ⟨gL, t * 4 + 3, none⟩ = some (.slice (some ⟨gx, 0, none⟩) 2 2) ∧ X.cell? ⟨gM, t * 4, none⟩ = some (.string kindV) ∧ X.cell? ⟨gM, t * 4 + 1, none⟩ = some (.int .i64 x') ∧ X.cell? ⟨gM, t * 4 + 2, none⟩ = some (.int .i64 y') ∧ X.cell? ⟨gM, t * 4 + 3, none⟩ = some (.slice (some ⟨gy, 0, none⟩) 2 2)) (go_keep)
                ((go_at_call 10; refine (cmp10 x y s z gx x' y' s' z' gy wr.drew HIX.out.1 HIX.out.2).mono ?_; rintro e w' ⟨rfl, qq, os, hw'⟩; have hb' : Below wr.heap.size wr w' := below_of_drew (by rw [hw']; exact below_grow wr.drew qq os); clear hw'; have k0 := (hb'.cell (p := ⟨gL, t * 4, none⟩) lL).trans e0; have k1 := (hb'.cell (p := ⟨gL, t * 4 + 1, none⟩) lL).trans e1; have k2 := (hb'.cell (p := ⟨gL, t * 4 + 2, none⟩) lL).trans e2; have k3 := (hb'.cell (p := ⟨gL, t * 4 + 3, none⟩) lL).trans e3; have k4 := (hb'.cell (p := ⟨gM, t * 4, none⟩) lM).trans f0; have k5 := (hb'.cell (p := ⟨gM, t * 4 + 1, none⟩) lM).trans f1; have k6 := (hb'.cell (p := ⟨gM, t * 4 + 2, none⟩) lM).trans f2; have k7 := (hb'.cell (p := ⟨gM, t * 4 + 3, none⟩) lM).trans f3; have HB' := hide hb'; clear hb'))
              all_goals (try go_wp2_with fail)
              all_goals go_meet
              all_goals exact ⟨by first | rfl | (simp [hz]), unhide HB'⟩
            case rest =>
              obtain ⟨rfl, hBc⟩ := hcut
              go_wp2
              go_roundw
              case rel => exact ⟨t + 1, by omega, by go_num, (unhide HBt).trans (hBc.mono (unhide HBt).size)⟩
              case measure => simp [intOf]; omega
          · have htl' : ¬ (t : Int) < (nn : Int) := by omega
            go_wp2
            go_ret
            exact ⟨rfl, (unhide HB6).trans (hBt.mono (unhide HB6).size)⟩

end Go.Proofs.Ybulkaggi

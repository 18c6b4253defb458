import Derived.Test.YbulkaggiE8
import Derived.Shelf.SlSortCmp.NoneTotal
namespace Go.Proofs.Ybulkaggi
open Go.RowKit Go.Sort
set_option linter.unusedVariables false
set_option maxRecDepth 100000

set_option maxHeartbeats 2000000 in
theorem phantom_loop2 (g0 c0 n0 g1 c1 n1 : Nat) (us vs : List H) (w : World) (base : Nat) (l0 l1 : List H) (o0 : w.ownsRow base 74 3 (.slice (some ⟨g0, 0, none⟩) n0 c0) n0 (flatH l0)) (o1 : w.ownsRow base 74 3 (.slice (some ⟨g1, 0, none⟩) n1 c1) n1 (flatH l1)) (hne : g0 ≠ g1)
    (hl0 : l0.length = n0) (hl1 : l1.length = n1) (hn0 : n0 ≤ 256) (hn1 : n1 ≤ 256) (hbase : base ≤ w.heap.size) :
    Calls Yba.prog 7 #[.slice (some ⟨g0, 0, none⟩) n0 c0, .slice (some ⟨g1, 0, none⟩) n1 c1] w fun e w' => ∃ v L, e = .returned v ∧ Ans w' w.heap.size v L ∧ (L.map (·.1)).Perm (prs l0 l1) ∧ Below base w w' ∧ ∀ k, k < w.heap.size → k ≠ g0 → k ≠ g1 → w'.heap[k]? = w.heap[k]? := by
  have H1 := hide (sort_half g0 c0 n0 base l0 w o0 hl0 hn0)
  have HO := hide (And.intro o0 o1)
  clear o0 o1
  go_enter Yba.func7, Yba.ntmps7
  go_upto_region 3 with (go_at_call 24; refine (unhide H1).mono ?_; rintro e w1 ⟨rfl, us, pu, su, lu, ou, t1⟩)
  have H2 := hide (sort_half g1 c1 n1 base l1 w1 (t1.own HO.out.2 (Ne.symm hne)) hl1 hn1)
  have HU := hide (And.intro ou t1)
  clear ou t1
  go_upto_region 4 with (go_at_call 24; refine (unhide H2).mono ?_; rintro e w2 ⟨rfl, vs, pv, sv, lv, ov, t2⟩)
  have ou := t2.own HU.out.1 hne
  have hB2 : Below base w w2 := (HU.out.2.below (HO.out.1.lt g0 rfl).1 hbase).trans (t2.below (HO.out.2.lt g1 rfl).1 (Nat.le_trans hbase HU.out.2.size))
  have hsz2 : w.heap.size ≤ w2.heap.size := Nat.le_trans HU.out.2.size t2.size
  have hkk : ∀ k, k < w.heap.size → k ≠ g0 → k ≠ g1 → w2.heap[k]? = w.heap[k]? := fun k h1 h2 h3 => (t2.block k (Nat.lt_of_lt_of_le h1 HU.out.2.size) h3).trans (HU.out.2.block k h1 h2)
  have lg0 : g0 < w2.heap.size := (ou.lt g0 rfl).2
  have lg1 : g1 < w2.heap.size := (ov.lt g1 rfl).2
  have hcap0 : n0 ≤ c0 := own_cap ou
  have hcap1 : n1 ≤ c1 := own_cap ov
  have ru := RowH.of_own ou lu
  have rv := RowH.of_own ov lv
  have HP := hide (prs_perm pu pv)
  have HBB := hide (And.intro hB2 (And.intro hsz2 hkk))
  have HS := hide (And.intro su sv)
  have HRU := hide ru
  have HRV := hide rv
  clear hkk ou ov pu pv HU HO H1 H2 hB2 hsz2 su sv t2 ru rv hl0 hl1
  go_wp2
  go_loopw [6, 7, 8] (fun v p q wr => ∃ (i j : Nat) (L : List An), i ≤ n0 ∧ j ≤ n1 ∧ p = .int .i64 i ∧ q = .int .i64 j ∧ Ans wr w2.heap.size v L ∧ (L.map (·.1) ++ prs (us.drop i) (vs.drop j)).Perm (prs us vs) ∧ L.length ≤ 256 * i ∧ Below w2.heap.size w2 wr) (fun _ p q _ => (n0 - (intOf p).toNat) + (n1 - (intOf q).toNat))
  case atStart => exact ⟨0, 0, [], Nat.zero_le _, Nat.zero_le _, rfl, rfl, Ans.nil _ _, by simp, by simp, Below.refl _ _⟩
  case round =>
    obtain ⟨i, j, L, hi, hj, rfl, rfl, hA, hperm, hlen, hB⟩ := hrel
    obtain ⟨av, cv, rfl⟩ := own_shape hA.row
    have FIN : Hid (prs (us.drop i) (vs.drop j) = [] → Ans wr w.heap.size (.slice av L.length cv) L ∧ (L.map (·.1)).Perm (prs l0 l1) ∧ Below base w wr ∧ ∀ k, k < w.heap.size → k ≠ g0 → k ≠ g1 → wr.heap[k]? = w.heap[k]?) := fun h => by
      rw [h, List.append_nil] at hperm
      obtain ⟨hb1, hb2, hb3⟩ := HBB.out
      refine ⟨⟨?_, fun x hx => ⟨(hA.items x hx).1, Nat.le_trans hb2 (hA.items x hx).2⟩⟩, hperm.trans HP.out, hb1.trans (hB.mono (Nat.le_trans hbase hb2)), fun k h1 h2 h3 => (hB.block k (Nat.lt_of_lt_of_le h1 hb2)).trans (hb3 k h1 h2 h3)⟩
      refine ⟨hA.row.1, ?_⟩
      rcases hA.row.2 with h0 | ⟨g, cap, cur, e, hb, rest⟩
      · exact .inl h0
      · exact .inr ⟨g, cap, cur, e, Nat.le_trans hb2 hb, rest⟩
    by_cases hin : i < n0
    · by_cases hjn : j < n1
      · have a1 : (i : Int) < (n0 : Int) := by omega
        have a2 : (j : Int) < (n1 : Int) := by omega
        have HPM := hide hperm
        have HA := hide hA
        clear hperm hA FIN
        have szr := hB.size
        have lr0 : g0 < wr.heap.size := by omega
        have lr1 : g1 < wr.heap.size := by omega
        have ru := HRU.out.below hB lg0
        have rv := HRV.out.below hB lg1
        obtain ⟨e0, e1, e2⟩ := ru i (by omega)
        obtain ⟨f0, f1, f2⟩ := rv j (by omega)
        obtain ⟨⟨x, y, s⟩, hu⟩ : ∃ r, us[i]'(by omega) = r := ⟨_, rfl⟩
        obtain ⟨⟨x', y', s'⟩, hv⟩ : ∃ r, vs[j]'(by omega) = r := ⟨_, rfl⟩
        rw [hu] at e0 e1 e2
        rw [hv] at f0 f1 f2
        simp only [] at e0 e1 e2 f0 f1 f2
        have HUV := hide (And.intro hu hv)
        clear hu hv ru rv
        go_upto_region 7 with fail
        go_cut [9] (fun v9 wx => v9 = .int .i64 (cmpH (x, y, s) (x', y', s')) ∧ Below wr.heap.size wr wx)
        case first =>
          go_region_held3 (fun X => X.cell? ⟨g0, i * 3, none⟩ = some (.int .i64 x) ∧ X.cell? ⟨g0, i * 3 + 1, none⟩ = some (.int .i64 y) ∧ X.cell? ⟨g0, i * 3 + 2, none⟩ = some (.string s) ∧ X.cell? ⟨g1, j * 3, none⟩ = some (.int .i64 x') ∧ X.cell? ⟨g1, j * 3 + 1, none⟩ = some (.int .i64 y') ∧ X.cell? ⟨g1, j * 3 + 2, none⟩ = some (.string s')) (go_keep)
            ((go_at_call 23; refine (by_pair_b (x, y, s) (x', y', s') _).mono ?_; rintro e w' ⟨rfl, hb'⟩; have k0 := (hb'.cell (p := ⟨g0, i * 3, none⟩) lr0).trans e0; have k1 := (hb'.cell (p := ⟨g0, i * 3 + 1, none⟩) lr0).trans e1; have k2 := (hb'.cell (p := ⟨g0, i * 3 + 2, none⟩) lr0).trans e2; have k3 := (hb'.cell (p := ⟨g1, j * 3, none⟩) lr1).trans f0; have k4 := (hb'.cell (p := ⟨g1, j * 3 + 1, none⟩) lr1).trans f1; have k5 := (hb'.cell (p := ⟨g1, j * 3 + 2, none⟩) lr1).trans f2; have HB' := hide hb'; clear hb'))
          all_goals (try go_wp2_with fail)
          all_goals go_meet
          all_goals exact ⟨rfl, below_of_drew (unhide HB')⟩
        case rest =>
          obtain ⟨rfl, hB7⟩ := hcut
          have hA7 := hide ((unhide HA).keep hB7)
          have hB27 : Below w2.heap.size w2 wc := hB.trans (hB7.mono szr)
          have szc := hB7.size
          have lc0 : g0 < wc.heap.size := by omega
          have lc1 : g1 < wc.heap.size := by omega
          have hBc := hide hB27
          have HRc := hide (And.intro (HRU.out.below hB27 lg0) (HRV.out.below hB27 lg1))
          have V := cmpH_val (x, y, s) (x', y', s')
          generalize cmpH (x, y, s) (x', y', s') = r at *
          have HV := hide V
          clear V hB27 hB hB7 HA e0 e1 e2 f0 f1 f2
          rcases (by omega : r < 0 ∨ 0 < r ∨ r = 0) with hr | hr | hr
          · go_wp2
            go_roundw
            case rel =>
              refine ⟨i + 1, j, L, by omega, hj, by go_num, rfl, unhide hA7, ?_, by omega, unhide hBc⟩
              have h := HPM.out
              rwa [step_lt (by omega) (by omega) HS.out.2 (by rw [HUV.out.1, HUV.out.2]; exact HV.out.1.1 hr)] at h
            case measure => simp [intOf]; omega
          · have hr' : ¬ r < 0 := by omega
            go_wp2
            go_roundw
            case rel =>
              refine ⟨i, j + 1, L, hi, by omega, rfl, by go_num, unhide hA7, ?_, by omega, unhide hBc⟩
              have h := HPM.out
              rwa [step_gt (by omega) (by omega) HS.out.1 (by rw [HUV.out.1, HUV.out.2]; exact HV.out.2.2.1 hr)] at h
            case measure => simp [intOf]; omega
          · subst hr
            have hsm : same (x, y, s) (x', y', s') = true := HV.out.2.1.1 rfl
            have HSM := hide hsm
            clear hsm HV
            go_wp2
            go_loopw [10] (fun q wx => ∃ k : Nat, i < k ∧ k ≤ n0 ∧ q = .int .i64 k ∧ Run us i k ∧ Below wc.heap.size wc wx) (fun q _ => n0 - (intOf q).toNat)
            case atStart => exact ⟨i + 1, by omega, by omega, by go_num, run_start (by omega), Below.refl _ _⟩
            case round =>
              obtain ⟨k, hik_k, hkn_k, rfl, hrun, hBk⟩ := hrel
              have lk : g0 < wr.heap.size := by have := hBk.size; omega
              obtain ⟨q0, q1, q2⟩ := (HRc.out.1.below hBk lc0) i (by omega)
              obtain ⟨⟨xi, yi, si⟩, hxi⟩ : ∃ r, us[i]'(by omega) = r := ⟨_, rfl⟩
              rw [hxi] at q0 q1 q2
              simp only [] at q0 q1 q2
              have HXI := hide hxi
              have HRN := hide hrun
              have HBK := hide hBk
              clear hxi hrun
              go_upto_region 9 with fail
              go_cut [62] (fun v wx => ∃ b : Bool, v = .bool b ∧ Below wr.heap.size wr wx ∧ (b = true → k < n0 ∧ Run us i (k + 1)) ∧ (b = false → ∀ h : k < us.length, ∀ h' : i < us.length, same us[k] us[i] = false))
              case first =>
                by_cases hkl : k < n0
                · have hkl' : (k : Int) < (n0 : Int) := by omega
                  obtain ⟨p0, p1, p2⟩ := (HRc.out.1.below (unhide HBK) lc0) k (by omega)
                  obtain ⟨⟨xk, yk, sk⟩, hxk⟩ : ∃ r, us[k]'(by omega) = r := ⟨_, rfl⟩
                  rw [hxk] at p0 p1 p2
                  simp only [] at p0 p1 p2
                  have HXK := hide hxk
                  clear hxk
                  have V := cmpH_val (xk, yk, sk) (xi, yi, si)
                  by_cases hc : cmpH (xk, yk, sk) (xi, yi, si) = 0
                  · have hsm := V.2.1.1 hc
                    have HSMK := hide hsm
                    have hc' : (cmpH (xk, yk, sk) (xi, yi, si) == 0) = true := by simp [hc]
                    clear hsm V hBk
                    go_region_held3 (fun X => X.cell? ⟨g0, k * 3, none⟩ = some (.int .i64 xk) ∧ X.cell? ⟨g0, k * 3 + 1, none⟩ = some (.int .i64 yk) ∧ X.cell? ⟨g0, k * 3 + 2, none⟩ = some (.string sk) ∧ X.cell? ⟨g0, i * 3, none⟩ = some (.int .i64 xi) ∧ X.cell? ⟨g0, i * 3 + 1, none⟩ = some (.int .i64 yi) ∧ X.cell? ⟨g0, i * 3 + 2, none⟩ = some (.string si)) (go_keep) ((go_at_call 23; refine (by_pair_b (xk, yk, sk) (xi, yi, si) _).mono ?_; rintro e w' ⟨rfl, hb'⟩; have k0 := (hb'.cell (p := ⟨g0, k * 3, none⟩) lk).trans p0; have k1 := (hb'.cell (p := ⟨g0, k * 3 + 1, none⟩) lk).trans p1; have k2 := (hb'.cell (p := ⟨g0, k * 3 + 2, none⟩) lk).trans p2; have k3 := (hb'.cell (p := ⟨g0, i * 3, none⟩) lk).trans q0; have k4 := (hb'.cell (p := ⟨g0, i * 3 + 1, none⟩) lk).trans q1; have k5 := (hb'.cell (p := ⟨g0, i * 3 + 2, none⟩) lk).trans q2; have HB' := hide hb'; clear hb'))
                    all_goals (try go_wp2_with fail)
                    all_goals go_meet
                    all_goals exact ⟨true, by first | rfl | (simp [hc]), below_of_drew (unhide HB'), fun _ => ⟨hkl, run_more (unhide HRN) (by omega) (by rw [HXK.out, HXI.out]; exact unhide HSMK)⟩, fun h => absurd h (by decide)⟩
                  · have hsm : same (xk, yk, sk) (xi, yi, si) = false := by
                      cases hq : same (xk, yk, sk) (xi, yi, si) with
                      | false => rfl
                      | true => exact absurd (V.2.1.2 hq) hc
                    have HSMK := hide hsm
                    have hc' : (cmpH (xk, yk, sk) (xi, yi, si) == 0) = false := by simp [hc]
                    clear hsm V hBk
                    go_region_held3 (fun X => X.cell? ⟨g0, k * 3, none⟩ = some (.int .i64 xk) ∧ X.cell? ⟨g0, k * 3 + 1, none⟩ = some (.int .i64 yk) ∧ X.cell? ⟨g0, k * 3 + 2, none⟩ = some (.string sk) ∧ X.cell? ⟨g0, i * 3, none⟩ = some (.int .i64 xi) ∧ X.cell? ⟨g0, i * 3 + 1, none⟩ = some (.int .i64 yi) ∧ X.cell? ⟨g0, i * 3 + 2, none⟩ = some (.string si)) (go_keep) ((go_at_call 23; refine (by_pair_b (xk, yk, sk) (xi, yi, si) _).mono ?_; rintro e w' ⟨rfl, hb'⟩; have k0 := (hb'.cell (p := ⟨g0, k * 3, none⟩) lk).trans p0; have k1 := (hb'.cell (p := ⟨g0, k * 3 + 1, none⟩) lk).trans p1; have k2 := (hb'.cell (p := ⟨g0, k * 3 + 2, none⟩) lk).trans p2; have k3 := (hb'.cell (p := ⟨g0, i * 3, none⟩) lk).trans q0; have k4 := (hb'.cell (p := ⟨g0, i * 3 + 1, none⟩) lk).trans q1; have k5 := (hb'.cell (p := ⟨g0, i * 3 + 2, none⟩) lk).trans q2; have HB' := hide hb'; clear hb'))
                    all_goals (try go_wp2_with fail)
                    all_goals go_meet
                    all_goals exact ⟨false, by first | rfl | (simp [hc]), below_of_drew (unhide HB'), fun h => absurd h (by decide), fun _ h h' => by rw [HXK.out, HXI.out]; exact unhide HSMK⟩
                · have hkl' : ¬ (k : Int) < (n0 : Int) := by omega
                  clear hBk
                  go_region
                  all_goals (try go_wp2_with fail)
                  all_goals go_meet
                  all_goals exact ⟨false, rfl, (Below.refl _ _).drew, fun h => absurd h (by decide), fun _ h => absurd h (by omega)⟩
              case rest =>
                obtain ⟨b, rfl, hBb, ht, hf⟩ := hcut
                cases b with
                | true =>
                  obtain ⟨hkl, hrn⟩ := ht rfl
                  clear hf
                  go_wp2
                  go_roundw
                  case rel => exact ⟨k + 1, by omega, by omega, by go_num, hrn, (unhide HBK).trans (hBb.mono (unhide HBK).size)⟩
                  case measure => simp [intOf]; omega
                | false =>
                  have HENDk := hide (hf rfl)
                  have HRNk := hide (unhide HRN)
                  have HBW := hide ((unhide HBK).trans (hBb.mono (unhide HBK).size))
                  clear ht hf hBb HBK HRN hBk q0 q1 q2 HXI
                  have HRc2 := hide (And.intro (HRc.out.1.below (unhide HBW) lc0) (HRc.out.2.below (unhide HBW) lc1))
                  have hA8 := hide ((unhide hA7).keep (unhide HBW))
                  have HBc := hide ((unhide hBc).trans ((unhide HBW).mono (unhide hBc).size))
                  have sz8 := (unhide HBW).size
                  have lc0b : g0 < wc.heap.size := by omega
                  have lc1b : g1 < wc.heap.size := by omega
                  clear HRc hA7 hBc HBW lk
                  go_wp2
                  go_loopw [11] (fun q wx => ∃ m : Nat, j < m ∧ m ≤ n1 ∧ q = .int .i64 m ∧ Run vs j m ∧ Below wc.heap.size wc wx) (fun q _ => n1 - (intOf q).toNat)
                  case atStart => exact ⟨j + 1, by omega, by omega, by go_num, run_start (by omega), Below.refl _ _⟩
                  case round =>
                    obtain ⟨m, hik_m, hkn_m, rfl, hrun, hBk⟩ := hrel
                    have lk : g1 < wr.heap.size := by have := hBk.size; omega
                    obtain ⟨q0, q1, q2⟩ := (HRc2.out.2.below hBk lc1b) j (by omega)
                    obtain ⟨⟨xi, yi, si⟩, hxi⟩ : ∃ r, vs[j]'(by omega) = r := ⟨_, rfl⟩
                    rw [hxi] at q0 q1 q2
                    simp only [] at q0 q1 q2
                    have HXI := hide hxi
                    have HRN := hide hrun
                    have HBK := hide hBk
                    clear hxi hrun
                    go_upto_region 11 with fail
                    go_cut [81] (fun v wx => ∃ b : Bool, v = .bool b ∧ Below wr.heap.size wr wx ∧ (b = true → m < n1 ∧ Run vs j (m + 1)) ∧ (b = false → ∀ h : m < vs.length, ∀ h' : j < vs.length, same vs[m] vs[j] = false))
                    case first =>
                      by_cases hkl : m < n1
                      · have hkl' : (m : Int) < (n1 : Int) := by omega
                        obtain ⟨p0, p1, p2⟩ := (HRc2.out.2.below (unhide HBK) lc1b) m (by omega)
                        obtain ⟨⟨xk, yk, sk⟩, hxk⟩ : ∃ r, vs[m]'(by omega) = r := ⟨_, rfl⟩
                        rw [hxk] at p0 p1 p2
                        simp only [] at p0 p1 p2
                        have HXK := hide hxk
                        clear hxk
                        have V := cmpH_val (xk, yk, sk) (xi, yi, si)
                        by_cases hc : cmpH (xk, yk, sk) (xi, yi, si) = 0
                        · have hsm := V.2.1.1 hc
                          have HSMK := hide hsm
                          have hc' : (cmpH (xk, yk, sk) (xi, yi, si) == 0) = true := by simp [hc]
                          clear hsm V hBk
                          go_region_held3 (fun X => X.cell? ⟨g1, m * 3, none⟩ = some (.int .i64 xk) ∧ X.cell? ⟨g1, m * 3 + 1, none⟩ = some (.int .i64 yk) ∧ X.cell? ⟨g1, m * 3 + 2, none⟩ = some (.string sk) ∧ X.cell? ⟨g1, j * 3, none⟩ = some (.int .i64 xi) ∧ X.cell? ⟨g1, j * 3 + 1, none⟩ = some (.int .i64 yi) ∧ X.cell? ⟨g1, j * 3 + 2, none⟩ = some (.string si)) (go_keep) ((go_at_call 23; refine (by_pair_b (xk, yk, sk) (xi, yi, si) _).mono ?_; rintro e w' ⟨rfl, hb'⟩; have k0 := (hb'.cell (p := ⟨g1, m * 3, none⟩) lk).trans p0; have k1 := (hb'.cell (p := ⟨g1, m * 3 + 1, none⟩) lk).trans p1; have k2 := (hb'.cell (p := ⟨g1, m * 3 + 2, none⟩) lk).trans p2; have k3 := (hb'.cell (p := ⟨g1, j * 3, none⟩) lk).trans q0; have k4 := (hb'.cell (p := ⟨g1, j * 3 + 1, none⟩) lk).trans q1; have k5 := (hb'.cell (p := ⟨g1, j * 3 + 2, none⟩) lk).trans q2; have HB' := hide hb'; clear hb'))
                          all_goals (try go_wp2_with fail)
                          all_goals go_meet
                          all_goals exact ⟨true, by first | rfl | (simp [hc]), below_of_drew (unhide HB'), fun _ => ⟨hkl, run_more (unhide HRN) (by omega) (by rw [HXK.out, HXI.out]; exact unhide HSMK)⟩, fun h => absurd h (by decide)⟩
                        · have hsm : same (xk, yk, sk) (xi, yi, si) = false := by
                            cases hq : same (xk, yk, sk) (xi, yi, si) with
                            | false => rfl
                            | true => exact absurd (V.2.1.2 hq) hc
                          have HSMK := hide hsm
                          have hc' : (cmpH (xk, yk, sk) (xi, yi, si) == 0) = false := by simp [hc]
                          clear hsm V hBk
                          go_region_held3 (fun X => X.cell? ⟨g1, m * 3, none⟩ = some (.int .i64 xk) ∧ X.cell? ⟨g1, m * 3 + 1, none⟩ = some (.int .i64 yk) ∧ X.cell? ⟨g1, m * 3 + 2, none⟩ = some (.string sk) ∧ X.cell? ⟨g1, j * 3, none⟩ = some (.int .i64 xi) ∧ X.cell? ⟨g1, j * 3 + 1, none⟩ = some (.int .i64 yi) ∧ X.cell? ⟨g1, j * 3 + 2, none⟩ = some (.string si)) (go_keep) ((go_at_call 23; refine (by_pair_b (xk, yk, sk) (xi, yi, si) _).mono ?_; rintro e w' ⟨rfl, hb'⟩; have k0 := (hb'.cell (p := ⟨g1, m * 3, none⟩) lk).trans p0; have k1 := (hb'.cell (p := ⟨g1, m * 3 + 1, none⟩) lk).trans p1; have k2 := (hb'.cell (p := ⟨g1, m * 3 + 2, none⟩) lk).trans p2; have k3 := (hb'.cell (p := ⟨g1, j * 3, none⟩) lk).trans q0; have k4 := (hb'.cell (p := ⟨g1, j * 3 + 1, none⟩) lk).trans q1; have k5 := (hb'.cell (p := ⟨g1, j * 3 + 2, none⟩) lk).trans q2; have HB' := hide hb'; clear hb'))
                          all_goals (try go_wp2_with fail)
                          all_goals go_meet
                          all_goals exact ⟨false, by first | rfl | (simp [hc]), below_of_drew (unhide HB'), fun h => absurd h (by decide), fun _ h h' => by rw [HXK.out, HXI.out]; exact unhide HSMK⟩
                      · have hkl' : ¬ (m : Int) < (n1 : Int) := by omega
                        clear hBk
                        go_region
                        all_goals (try go_wp2_with fail)
                        all_goals go_meet
                        all_goals exact ⟨false, rfl, (Below.refl _ _).drew, fun h => absurd h (by decide), fun _ h => absurd h (by omega)⟩
                    case rest =>
                      obtain ⟨b, rfl, hBb, ht, hf⟩ := hcut
                      cases b with
                      | true =>
                        obtain ⟨hkl, hrn⟩ := ht rfl
                        clear hf
                        go_wp2
                        go_roundw
                        case rel => exact ⟨m + 1, by omega, by omega, by go_num, hrn, (unhide HBK).trans (hBb.mono (unhide HBK).size)⟩
                        case measure => simp [intOf]; omega
                      | false =>
                        have HENDm := hide (hf rfl)
                        have HRNm := hide (unhide HRN)
                        have HBW := hide ((unhide HBK).trans (hBb.mono (unhide HBK).size))
                        clear ht hf hBb HBK HRN hBk q0 q1 q2 HXI
                        have HRc3 := hide (And.intro (HRc2.out.1.below (unhide HBW) lc0b) (HRc2.out.2.below (unhide HBW) lc1b))
                        have hA9 := hide ((unhide hA8).keep (unhide HBW))
                        have HBd := hide ((unhide HBc).trans ((unhide HBW).mono (unhide HBc).size))
                        have sz9 := (unhide HBW).size
                        have lc0c : g0 < wc.heap.size := by omega
                        have lc1c : g1 < wc.heap.size := by omega
                        clear HRc2 hA8 HBc HBW lk
                        have HCK := hide (And.intro hcap0 hcap1)
                        have kc0 : (k : Int) ≤ (c0 : Int) := by omega
                        have kc0' : k ≤ c0 := by omega
                        have ik0 : i ≤ k := by omega
                        have ci0 : ¬ c0 = i := by omega
                        have mc1 : (m : Int) ≤ (c1 : Int) := by omega
                        have mc1' : m ≤ c1 := by omega
                        have jm1 : j ≤ m := by omega
                        have cj1 : ¬ c1 = j := by omega
                        obtain ⟨nU, hnU⟩ : ∃ q, k - i = q := ⟨_, rfl⟩
                        obtain ⟨nV, hnV⟩ : ∃ q, m - j = q := ⟨_, rfl⟩
                        have HNU := hide (And.intro hnU hnV)
                        have hAL := hide (unhide hA9)
                        go_wp2
                        go_loopw [6, 89] (fun v p wx => ∃ (p' : Nat) (L' : List An), p' ≤ nU ∧ p = .int .i64 p' ∧ Ans wx w2.heap.size v L' ∧ L'.map (·.1) = L.map (·.1) ++ prs ((us.drop i).take p') ((vs.drop j).take nV) ∧ L'.length ≤ 256 * i + 256 * p' ∧ Below w2.heap.size w2 wx) (fun _ p _ => nU - (intOf p).toNat)
                        case atStart => exact ⟨0, L, Nat.zero_le _, rfl, unhide hA9, by simp [prs], by omega, unhide HBd⟩
                        case round =>
                          obtain ⟨p', L', hp', rfl, hAp, hLp, hlp, hBp⟩ := hrel
                          obtain ⟨ap, cpp, rfl⟩ := own_shape hAp.row
                          have szp := hBp.size
                          by_cases hpl : p' < nU
                          · have hpl' : (p' : Int) < (nU : Int) := by omega
                            obtain ⟨q0, q1, q2⟩ := (HRU.out.below hBp lg0) (i + p') (by have := HNU.out; omega)
                            obtain ⟨⟨xu, yu, su⟩, hxu⟩ : ∃ r, us[i + p']'(by have := HNU.out; omega) = r := ⟨_, rfl⟩
                            rw [hxu] at q0 q1 q2
                            rw [Nat.add_mul] at q0 q1 q2
                            simp only [] at q0 q1 q2
                            have HXU := hide hxu
                            have HAP := hide hAp
                            have HLP := hide hLp
                            have HBP := hide hBp
                            have lp0 : g0 < wr.heap.size := by omega
                            clear hxu hAp hLp
                            go_upto_region 16 with fail
                            have hub : (wr.alloc (.cells #[.int .i64 xu, .int .i64 yu, .string su] 74)).heap[wr.heap.size]? = some (.cells #[.int .i64 xu, .int .i64 yu, .string su] 74 (0, 0)) := heap_alloc_new wr _
                            have hbu : Below wr.heap.size wr (wr.alloc (.cells #[.int .i64 xu, .int .i64 yu, .string su] 74)) := (Below.refl _ _).alloc (Nat.le_refl _) _
                            have hAu := hide ((unhide HAP).keep hbu)
                            have hBu := hide ((unhide HBP).trans (hbu.mono szp))
                            have hubl := hide (Nat.le_refl wr.heap.size)
                            generalize hub0 : wr.heap.size = ub at *
                            have hubw : w2.heap.size ≤ ub := by omega
                            generalize wr.alloc (.cells #[.int .i64 xu, .int .i64 yu, .string su] 74) = Wu at *
                            have HUB := hide hub
                            clear hub hbu HBP HAP szp hub0 hubl q0 q1 q2 lp0 hBp
                            go_wp2
                            go_loopw [6, 98] (fun v q wx => ∃ (q' : Nat) (L2 : List An), q' ≤ nV ∧ q = .int .i64 q' ∧ Ans wx w2.heap.size v L2 ∧ L2.map (·.1) = L'.map (·.1) ++ (((vs.drop j).take q').filter (hit (xu, yu, su))).map (mkD (xu, yu, su)) ∧ L2.length ≤ L'.length + q' ∧ Below w2.heap.size w2 wx ∧ wx.heap[ub]? = some (.cells #[.int .i64 xu, .int .i64 yu, .string su] 74 (0, 0))) (fun _ q _ => nV - (intOf q).toNat)
                            case atStart => exact ⟨0, L', Nat.zero_le _, rfl, unhide hAu, by simp, by omega, unhide hBu, unhide HUB⟩
                            case round =>
                              obtain ⟨q', L2, hq', rfl, hAq, hLq, hlq, hBq, hubq⟩ := hrel
                              obtain ⟨aq, cq, rfl⟩ := own_shape hAq.row
                              have szq := hBq.size
                              have u0 : wr.cell? ⟨ub, 0, none⟩ = some (.int .i64 xu) := (cell_at hubq 0).trans rfl
                              have u1 : wr.cell? ⟨ub, 1, none⟩ = some (.int .i64 yu) := (cell_at hubq 1).trans rfl
                              have u2 : wr.cell? ⟨ub, 2, none⟩ = some (.string su) := (cell_at hubq 2).trans rfl
                              have lub : ub < wr.heap.size := (Array.getElem?_eq_some_iff.1 hubq).1
                              by_cases hql : q' < nV
                              · have hql' : (q' : Int) < (nV : Int) := by omega
                                obtain ⟨q0, q1, q2⟩ := (HRV.out.below hBq lg1) (j + q') (by have := HNU.out; omega)
                                obtain ⟨⟨xv, yv, sv⟩, hxv⟩ : ∃ r, vs[j + q']'(by have := HNU.out; omega) = r := ⟨_, rfl⟩
                                rw [hxv] at q0 q1 q2
                                rw [Nat.add_mul] at q0 q1 q2
                                simp only [] at q0 q1 q2
                                have lq1 : g1 < wr.heap.size := by omega
                                have STEP : Hid ((vs.drop j).take (q' + 1) = (vs.drop j).take q' ++ [(xv, yv, sv)]) := by
                                  show _ = _
                                  have hj' : q' < (vs.drop j).length := by rw [List.length_drop]; have := HNU.out; omega
                                  rw [List.take_succ_eq_append_getElem hj', List.getElem_drop, hxv]
                                have HSUV : Hid (same (xu, yu, su) (xv, yv, sv) = true) := by
                                  show _ = _
                                  have a1 := (unhide HRNk).all (i + p') (by have := HNU.out; omega) (by omega) (by omega) (by have := HNU.out; omega)
                                  have a2 := (unhide HRNm).all (j + q') (by have := HNU.out; omega) (by omega) (by omega) (by have := HNU.out; omega)
                                  rw [HXU.out, HUV.out.1] at a1
                                  rw [hxv, HUV.out.2] at a2
                                  have a3 := unhide HSM
                                  simp only [same, decide_eq_true_eq] at a1 a2 a3 ⊢
                                  omega
                                have HAQ := hide hAq
                                have HLQ := hide hLq
                                have HBQ := hide hBq
                                have HUBQ := hide hubq
                                clear hAq hLq hxv hubq
                                by_cases ho : (su.toList == sv.toList) = true
                                · have HHIT : Hid (hit (xu, yu, su) (xv, yv, sv) = false) := by show _ = _; simp [hit, other, ho]
                                  go_wp2
                                  go_roundw
                                  case rel =>
                                    have hbv : Below wr.heap.size wr (wr.alloc (.cells #[.int .i64 xv, .int .i64 yv, .string sv] 74)) := (Below.refl _ _).alloc (Nat.le_refl _) _
                                    refine ⟨q' + 1, L2, by omega, by go_num, (unhide HAQ).keep hbv, ?_, by omega, (unhide HBQ).trans (hbv.mono szq), (hbv.block ub lub).trans (unhide HUBQ)⟩
                                    rw [STEP.out, List.filter_append, List.map_append, HLQ.out]
                                    simp [HHIT.out]
                                  case measure => simp [intOf]; omega
                                · have ho' : (su.toList == sv.toList) = false := by simpa using ho
                                  have HHIT : Hid (hit (xu, yu, su) (xv, yv, sv) = true) := by show _ = _; simp [hit, other, ho', HSUV.out]
                                  clear ho
                                  go_upto_region 20 with fail
                                  have hbv : Below wr.heap.size wr (wr.alloc (.cells #[.int .i64 xv, .int .i64 yv, .string sv] 74)) := (Below.refl _ _).alloc (Nat.le_refl _) _
                                  have hvb : (wr.alloc (.cells #[.int .i64 xv, .int .i64 yv, .string sv] 74)).heap[wr.heap.size]? = some (.cells #[.int .i64 xv, .int .i64 yv, .string sv] 74 (0, 0)) := heap_alloc_new wr _
                                  have y2 : (wr.alloc (.cells #[.int .i64 xv, .int .i64 yv, .string sv] 74)).cell? ⟨wr.heap.size, 2, none⟩ = some (.string sv) := (cell_at hvb 2).trans rfl
                                  have t0 := (hbv.cell (p := ⟨ub, 0, none⟩) lub).trans u0
                                  have t1 := (hbv.cell (p := ⟨ub, 1, none⟩) lub).trans u1
                                  have t2 := (hbv.cell (p := ⟨ub, 2, none⟩) lub).trans u2
                                  have HAY := hide ((unhide HAQ).keep hbv)
                                  have HBY := hide ((unhide HBQ).trans (hbv.mono szq))
                                  have HUY := hide ((hbv.block ub lub).trans (unhide HUBQ))
                                  have szY : wr.heap.size + 1 = (wr.alloc (.cells #[.int .i64 xv, .int .i64 yv, .string sv] 74)).heap.size := by simp
                                  have HSZ : Hid (w2.heap.size ≤ (wr.alloc (.cells #[.int .i64 xv, .int .i64 yv, .string sv] 74)).heap.size) := by show _ ≤ _; omega
                                  have HLT : Hid (ub < (wr.alloc (.cells #[.int .i64 xv, .int .i64 yv, .string sv] 74)).heap.size ∧ wr.heap.size < (wr.alloc (.cells #[.int .i64 xv, .int .i64 yv, .string sv] 74)).heap.size) := by show _ ∧ _; omega
                                  clear hbv hvb u0 u1 u2 HAQ HBQ HUBQ szq hBq q0 q1 q2 lq1
                                  generalize hvb0 : wr.heap.size = vb at *
                                  generalize wr.alloc (.cells #[.int .i64 xv, .int .i64 yv, .string sv] 74) = Y at *
                                  clear szY hvb0 lub
                                  have lt1 : ub < Y.heap.size := HLT.out.1
                                  have lt2 : vb < Y.heap.size := HLT.out.2
                                  obtain ⟨i0, hi0, hz0, hz1, hz2⟩ := info_at info32
                                  have hrow := (unhide HAY).row
                                  have hlen2 : L2.length ≤ 65536 := by have := HNU.out; omega
                                  go_wp2_with (at_builtin; refine wpList_append_own _ rfl _ _ 23 rfl w2.heap.size 32 i0 _ 4 56 Yba.underlying23 hi0 hz0 hz1 hz2 rfl (by decide) _ _ _ rfl ((hrow.alloc _).alloc _) ⟨Y.heap.size + 1, 0, none⟩ 1 1 [.string kindV, .int .i64 xu, .int .i64 yu, .slice (some ⟨Y.heap.size, 0, none⟩) 2 2] rfl rfl ?gg1 ?gg2 ?gg3 ?gg4 ?gg5 ?_)
                                  case gg2 => first | exact ⟨rfl, rfl, rfl, rfl⟩ | (intro u hu; simp at hu; rcases hu with rfl | rfl | rfl | rfl <;> rfl)
                                  case gg3 => unfold maxLen; omega
                                  case gg4 => omega
                                  case gg5 => have := HSZ.out; simp; omega
                                  intro v' w9 ho9 hg9 _
                                  have PUSH := hide ((unhide HAY).push (a := xu) (b := yu) (s := su) (t := sv) HSZ.out ho9 hg9)
                                  obtain ⟨a9, c9, rfl⟩ := own_shape ho9
                                  have HB9 : Hid (Below w2.heap.size w2 w9) := (((unhide HBY).alloc HSZ.out _).alloc (by have := HSZ.out; simp; omega) _).grown hg9 (by have := HSZ.out; simp; omega) (fun x hx => (hrow.lt x hx).1)
                                  have HU9 : Hid (w9.heap[ub]? = some (.cells #[.int .i64 xu, .int .i64 yu, .string su] 74 (0, 0))) := by
                                    show _ = _
                                    rw [hg9.block ub (by simp; omega) (fun e => by
                                      obtain ⟨cs, hcs⟩ := own_block hrow e.symm
                                      rw [HUY.out] at hcs
                                      simp at hcs)]
                                    exact (Below.heap_alloc _ _ _ (by simp; omega)).trans ((Below.heap_alloc _ _ _ lt1).trans HUY.out)
                                  have e9 : L2.length + 1 = (L2 ++ [((xu, yu, su, sv), Y.heap.size)]).length := by simp
                                  have HE9 := hide e9
                                  clear ho9 hg9 hrow e9
                                  go_wp2
                                  go_roundw
                                  case rel =>
                                    refine ⟨q' + 1, L2 ++ [((xu, yu, su, sv), Y.heap.size)], by omega, by go_num, unhide PUSH, ?_, by simp; omega, unhide HB9, unhide HU9⟩
                                    rw [STEP.out, List.filter_append, List.map_append, List.map_append, HLQ.out]
                                    simp [HHIT.out, mkD]
                                  case measure => simp [intOf]; omega
                              · have hql' : ¬ (q' : Int) < (nV : Int) := by omega
                                obtain rfl : q' = nV := by omega
                                have HAQ := hide hAq
                                have HLQ := hide hLq
                                have HBQ := hide hBq
                                clear hAq hLq hBq hubq u0 u1 u2
                                go_wp2
                                go_roundw
                                case rel =>
                                  refine ⟨p' + 1, L2, by omega, by go_num, unhide HAQ, ?_, by have := HNU.out; omega, unhide HBQ⟩
                                  have hi' : p' < (us.drop i).length := by rw [List.length_drop]; have := HNU.out; omega
                                  rw [List.take_succ_eq_append_getElem hi', List.getElem_drop, HXU.out, prs_append, HLQ.out, HLP.out]
                                  simp [prs]
                                case measure => simp [intOf]; omega
                          · have hpl' : ¬ (p' : Int) < (nU : Int) := by omega
                            obtain rfl : p' = nU := by omega
                            have HAP := hide hAp
                            have HLP := hide hLp
                            have HBP := hide hBp
                            clear hAp hLp hBp
                            go_wp2
                            go_roundw
                            case rel =>
                              refine ⟨k, m, L', by omega, by omega, rfl, rfl, unhide HAP, ?_, by have := HNU.out; omega, unhide HBP⟩
                              have h := HPM.out
                              rw [step_eq (by omega) (by omega) HS.out.1 HS.out.2 (by rw [HUV.out.1, HUV.out.2]; exact unhide HSM) (unhide HRNk) (unhide HRNm) (fun h => unhide HENDk h _) (fun h => unhide HENDm h _), ← List.append_assoc] at h
                              rw [HLP.out]
                              have e1 := HNU.out.1
                              have e2 := HNU.out.2
                              rw [e1, e2] at h
                              exact h
                            case measure => simp [intOf]; have := HNU.out; omega
      · have a1 : (i : Int) < (n0 : Int) := by omega
        have a2 : ¬ ((j : Int) < (n1 : Int)) := by omega
        clear hperm hA
        go_wp2
        go_ret
        obtain ⟨h1, h2, h3, h4⟩ := FIN.out (by
          rw [List.drop_of_length_le (l := vs) (by omega)]
          exact prs_none fun u _ v hv => absurd hv (by simp))
        exact ⟨_, rfl, L, h1, h2, h3, h4⟩
    · have a1 : ¬ ((i : Int) < (n0 : Int)) := by omega
      clear hperm hA
      go_wp2
      go_ret
      obtain ⟨h1, h2, h3, h4⟩ := FIN.out (by
        rw [List.drop_of_length_le (l := us) (by omega)]
        rfl)
      exact ⟨_, rfl, L, h1, h2, h3, h4⟩


theorem sort_half_none (p : Option Addr) (cp : Nat) (w : World) : Calls Yba.prog 24 #[.slice p 0 cp, .func (.func 23) #[] #[]] w fun e w' => e = .returned (.tuple #[]) ∧ w' = w := by
  have h := AnyF.slices_SortFunc_none Yba.sortHalf p cp (.func (.func 23) #[] #[]) w
  change Calls Yba.prog 24 _ _ _ at h
  exact h
theorem phantom_none (a0 a1 : Option Addr) (n0 c0 n1 c1 : Nat) (w : World) (G0 G1 : World → Prop) (h : n0 = 0 ∨ n1 = 0)
    (C0 : Calls Yba.prog 24 #[.slice a0 n0 c0, .func (.func 23) #[] #[]] w fun e w' => e = .returned (.tuple #[]) ∧ G0 w') (C1 : ∀ w1, G0 w1 → Calls Yba.prog 24 #[.slice a1 n1 c1, .func (.func 23) #[] #[]] w1 fun e w' => e = .returned (.tuple #[]) ∧ G1 w') :
    Calls Yba.prog 7 #[.slice a0 n0 c0, .slice a1 n1 c1] w fun e w' => e = .returned (.slice none 0 0) ∧ G1 w' := by
  have H0 := hide C0
  have H1 := hide C1
  clear C0 C1
  go_enter Yba.func7, Yba.ntmps7
  go_upto_region 3 with (go_at_call 24; refine H0.out.mono ?_; rintro e w1 ⟨rfl, q0⟩)
  have K1 := hide (H1.out _ q0)
  clear q0 H0 H1
  go_upto_region 4 with (go_at_call 24; refine K1.out.mono ?_; rintro e w2 ⟨rfl, q1⟩)
  have Q1 := hide q1
  clear q1 K1
  go_wp2
  go_loopw [6, 7, 8] (fun v p q wr => v = .slice none 0 0 ∧ p = .int .i64 0 ∧ q = .int .i64 0 ∧ wr = w2) (fun _ _ _ _ => 0)
  case atStart => exact ⟨rfl, rfl, rfl, rfl⟩
  case round =>
    obtain ⟨rfl, rfl, rfl, hw⟩ := hrel
    subst hw
    by_cases e0 : n0 = 0
    · subst e0
      go_wp2
      go_ret
      exact ⟨rfl, Q1.out⟩
    · obtain rfl : n1 = 0 := by omega
      have hn0 : (0 : Int) < (n0 : Int) := by omega
      go_wp2
      go_ret
      exact ⟨rfl, Q1.out⟩
end Go.Proofs.Ybulkaggi

import Derived.Test.YbulkaggiBg
namespace Go.Proofs.Ybulkaggi.BM
open Go.RowKit Go.Proofs.Ybulkaggi Go.Sort Go.Shelf Go.Lib
open Go.Proofs.Ybulkaggi.CE (hlt tag_ne own_tag own_keep step_append news2 sl_shape grown_of_drew)
set_option linter.unusedVariables false
set_option maxRecDepth 100000

set_option maxHeartbeats 2000000 in
theorem runs_any2 (g n c gp off cp m mb sz : Nat) (L : List O3) (Q : List Nat) (tb f l a : Nat → Nat) (P : Nat → Prop) (w : World) (hn : n ≤ 256) (hl : L.length = n) (h : OpsAt w g L) (hg : g < w.heap.size) (hm : TB w mb sz P tb) (hP : ∀ i, i < m → P (tQ L Q i)) (hmb : mb < w.heap.size)
    (hQ : Q.length = m) (hm256 : m ≤ 256) (hcap : m ≤ cp) (hcap2 : cp ≤ 9223372036854775807) (hoff : off ≤ 100000) (hpos : ∀ i (hi : i < Q.length), w.cell? ⟨gp, off + i, none⟩ = some (.int .i64 (Q[i] : Nat)) ∧ Q[i] < n) (hgp : gp < w.heap.size) (srt : ∀ i j, i ≤ j → j < m → tQ L Q i ≤ tQ L Q j)
    (blk : ∀ t, P t → w.heap[tb t]? = some (.cells #[.int .i64 (t : Int), .int .i64 (f t : Int), .int .i64 (l t : Int), .int .i64 (a t : Int)] 99 (0, 0))) :
    Calls Yba.prog 31 #[.slice (some ⟨g, 0, none⟩) n c, .map (some mb), .slice (some ⟨gp, off, none⟩) m cp] w (RunsPost w L Q tb f gp off cp) := by
  have H := hide h
  have HL := hide hl
  have HG := hide hg
  have HM := hide hm
  have HP := hide hP
  have HMB := hide hmb
  have HQ := hide hQ
  have HPOS := hide hpos
  have SRT := hide srt
  have BLK := hide blk
  have HGP := hide hgp
  clear h hl hg hm hP hmb hQ hpos srt blk hgp
  have RD : Hid (∀ (x : World) (k : Nat), Below w.heap.size w x → k < m → ∃ p t : Nat, p < n ∧ t ≤ 4 ∧ t = tQ L Q k ∧ x.cell? ⟨gp, off + k, none⟩ = some (.int .i64 (p : Int)) ∧ x.cell? ⟨g, p * 3 + 1, none⟩ = some (.int .i64 (t : Int))) := fun x k hb hk => by
    have hk' : k < Q.length := by rw [HQ.out]; exact hk
    obtain ⟨h1, h2⟩ := HPOS.out k hk'
    have e : Q.getD k 0 = Q[k] := by simp [List.getD, List.getElem?_eq_getElem hk']
    have h3 := opD_t H.out (p := Q[k]) (by rw [HL.out]; exact h2)
    refine ⟨Q[k], tQ L Q k, h2, ?_, rfl, (hb.cell (p := ⟨gp, off + k, none⟩) HGP.out).trans h1, ?_⟩
    · unfold tQ; rw [e]; exact h3.2
    · unfold tQ; rw [e]; exact (hb.cell (p := ⟨g, Q[k] * 3 + 1, none⟩) HG.out).trans h3.1
  go_enter Yba.func31, Yba.ntmps31
  go_wp2
  go_loopw [7, 8] (fun v q wr => ∃ (k : Nat) (R : List Sg), k ≤ m ∧ q = .int .i64 (k : Int) ∧ wr.ownsRow w.heap.size 94 2 v R.length ((R.map (mkR tb gp off cp Q)).flatMap encR) ∧ Segs (tQ L Q) m k R ∧ Below w.heap.size w wr) (fun _ q _ => m - (intOf q).toNat)
  case atStart => exact ⟨0, [], Nat.zero_le _, rfl, World.ownsRow_nil _ _ _ _, Segs.nil _ _, Below.refl _ _⟩
  case round =>
    obtain ⟨k, R, hk, rfl, how, hsg, hbl⟩ := hrel
    have hszw := hbl.size
    have rl := hsg.len
    obtain ⟨va, vc, rfl⟩ := own_shape how
    by_cases hkn : k < m
    · have hkn' : (k : Int) < (m : Int) := by omega
      obtain ⟨p, t, hp, ht4, ht, c1, c2⟩ := RD.out wr k hbl hkn
      have hp' : (p : Int) < (n : Int) := by omega
      have OW := hide how
      have SG := hide hsg
      have BL := hide hbl
      have HT := hide ht
      clear how hsg hbl ht
      generalize hwo : wr = wo at *
      clear hwo
      go_wp2
      go_loopw [10] (fun q wx => ∃ hh : Nat, k < hh ∧ hh ≤ m ∧ q = .int .i64 (hh : Int) ∧ (∀ i, k ≤ i → i < hh → tQ L Q i = t) ∧ wx = wo) (fun q _ => m - (intOf q).toNat)
      case atStart => exact ⟨k + 1, by omega, by omega, by go_num, fun i h1 h2 => by rw [show i = k by omega]; exact HT.out.symm, rfl⟩
      case round =>
        obtain ⟨hh, h1, h2, rfl, h3, hw⟩ := hrel
        subst hw
        have H3 := hide h3
        clear h3
        go_upto_region 6 with fail
        go_cut [40] (fun v wx => ∃ b : Bool, v = .bool b ∧ wx = wr ∧ (b = true → hh < m ∧ tQ L Q hh = t) ∧ (b = false → hh < m → tQ L Q hh ≠ t))
        case first =>
          by_cases hhm : hh < m
          · have hhm' : (hh : Int) < (m : Int) := by omega
            obtain ⟨p2, t2, hp2, ht24, ht2, d1, d2⟩ := RD.out wr hh BL.out hhm
            have hp2' : (p2 : Int) < (n : Int) := by omega
            have HT2 := hide ht2
            clear ht2
            go_wp2
            go_meet
            exact ⟨((t2 : Int) == (t : Int)), rfl, rfl, fun e => ⟨hhm, by have := HT2.out; simp at e; omega⟩, fun e _ => by have := HT2.out; simp at e; omega⟩
          · have hhm' : ¬ (hh : Int) < (m : Int) := by omega
            go_wp2
            go_meet
            exact ⟨false, rfl, rfl, fun e => absurd e (by decide), fun _ e => absurd e hhm⟩
        case rest =>
          obtain ⟨b, rfl, rfl, q1, q2⟩ := hcut
          cases b with
          | true =>
            obtain ⟨q3, q4⟩ := q1 rfl
            have Q4 := hide q4
            clear q1 q2 q4
            go_wp2
            go_roundw
            case rel => exact ⟨hh + 1, by omega, by omega, by go_num, fun i e1 e2 => by
              rcases Nat.lt_or_ge i hh with e | e
              · exact H3.out i e1 e
              · rw [show i = hh by omega]; exact Q4.out, by first | rfl | trivial⟩
            case measure => simp [intOf]; omega
          | false =>
            have Q2 := hide (q2 rfl)
            clear q1 q2
            have hhk : (hh : Int) ≤ (cp : Int) := by omega
            have hkh : (k : Int) ≤ (hh : Int) := by omega
            have hnz : ¬ (cp : Int) - (k : Int) = 0 := by omega
            have hnz2 : ¬ cp = k := by omega
            have rlk : (Instr.lookup 42 (.map (some mb)) (.int .i64 (t : Int)) false).run Yba.prog wc.drew = .ok (Pp (tb t)) wc.drew := TB.hit (w := wc.drew) ((HM.out.keep (BL.out.block mb HMB.out)).keep rfl) (by omega) (by rw [HT.out]; exact HP.out k hkn)
            have FIN : Hid (∀ (v' : Value) (w3 : World) (o : Obj), w3.ownsRow w.heap.size 94 2 v' (R.length + 1) ((R.map (mkR tb gp off cp Q)).flatMap encR ++ [Pp (tb t), .slice (some ⟨gp, off + k, none⟩) (hh - k) (cp - k)]) → (wc.alloc o).grownBy w3 (Value.slice va R.length vc).ownBlock → ∃ R' : List Sg, w3.ownsRow w.heap.size 94 2 v' R'.length ((R'.map (mkR tb gp off cp Q)).flatMap encR) ∧ Segs (tQ L Q) m hh R' ∧ Below w.heap.size w w3) := fun v' w3 o e1 e2 => by
              refine ⟨R ++ [(t, k, hh)], ?_, ?_, ?_⟩
              · rw [List.map_append, List.map_cons, List.map_nil, flat_snoc, List.length_append]
                have e : encR (mkR tb gp off cp Q (t, k, hh)) = [Pp (tb t), .slice (some ⟨gp, off + k, none⟩) (hh - k) (cp - k)] := by
                  have := mkR_len (tb := tb) (gp := gp) (off := off) (cp := cp) (Q := Q) (s := (t, k, hh)) (by simp; omega) (by rw [HQ.out]; exact h2)
                  unfold encR
                  rw [this]
                  rfl
                rw [e]
                exact e1
              · have := SG.out.next SRT.out h1 h2 (fun i a1 a2 => by rw [H3.out i a1 a2]; exact HT.out) (fun a => by rw [← HT.out]; exact Q2.out a)
                rwa [← HT.out] at this
              · exact (BL.out.alloc (by have := BL.out.size; omega) o).grown e2 (by simp; omega) (fun x hx => (OW.out.lt x hx).1)
            clear RD
            generalize R.length = rn at *
            generalize (R.map (mkR tb gp off cp Q)).flatMap encR = XS at *
            generalize tb t = B at *
            go_upto_region 8 with fail
            go_cut [7] (fun v wx => ∃ R' : List Sg, wx.ownsRow w.heap.size 94 2 v R'.length ((R'.map (mkR tb gp off cp Q)).flatMap encR) ∧ Segs (tQ L Q) m hh R' ∧ Below w.heap.size w wx)
            case first =>
              go_region_law (refine step_append (base := w.heap.size) (n := rn) (v := .slice va rn vc) (by rfl) (.tmp 43) (.tmp 52) 90 (by rfl) 94 _ 2 32 Yba.underlying90 info94 rfl (by decide) (by decide) (by rfl) (by rfl) [Pp B, .slice (some ⟨gp, off + k, none⟩) (hh - k) (cp - k)] rfl (by exact news2 _ rfl) (by simp [Value.oneCell']) (by exact OW.out.alloc _) (by omega) (by exact Nat.le_trans hszw (by simp)) ?_; intro v' w3 ho3 hg3 hl3; obtain ⟨va', vc', hv3⟩ := sl_shape ho3; subst hv3; have FF := hide (FIN.out _ _ _ ho3 (grown_of_drew hg3)); clear ho3 hg3 hl3)
              all_goals (try go_wp2_with fail)
              all_goals go_meet
              all_goals exact FF.out
            case rest =>
              obtain ⟨R', g1, g2, g3⟩ := hcut
              have G1 := hide g1
              have G2 := hide g2
              have G3 := hide g3
              clear g1 g2 g3
              go_wp2
              go_roundw
              case rel => exact ⟨hh, R', by omega, by go_num, G1.out, G2.out, G3.out⟩
              case measure => simp [intOf]; omega
    · have hkn' : ¬ (k : Int) < (m : Int) := by omega
      obtain rfl : k = m := by omega
      by_cases h0 : R.length = 0
      · have hnil : R = [] := List.length_eq_zero_iff.1 h0
        have FIN : Hid (RunsPost w L Q tb f gp off cp (.returned (.slice va R.length vc)) wr) := ⟨_, R, rfl, how, by rw [HQ.out]; exact hsg, by rw [hnil]; exact .nil, hbl⟩
        rw [h0] at FIN ⊢
        clear how hsg hbl
        go_wp2_with (go_at_call 62; refine (sort_run_none _ _ _ _).mono ?_; rintro e w' ⟨rfl, hw⟩; obtain rfl := hw.symm)
        go_ret
        exact FIN.out
      · obtain ⟨gq, cq, hv⟩ := own_some how (by omega)
        cases hv
        have hft : ∀ t, P t → wr.heap[tb t]? = some (.cells #[.int .i64 (t : Int), .int .i64 (f t : Int), .int .i64 (l t : Int), .int .i64 (a t : Int)] 99 (0, 0)) := fun t ht => (hbl.block _ (hlt (BLK.out t ht))).trans (BLK.out t ht)
        have hPt : ∀ s ∈ R, P s.1 := fun s hs => by
          obtain ⟨a1, a2, a3⟩ := hsg.seg s hs
          have := (a3 s.2.1 (by omega)).2 ⟨Nat.le_refl _, a1⟩
          rw [← this]
          exact HP.out _ (by omega)
        obtain ⟨F, hF⟩ : ∃ F : Nat → Nat, ∀ t, P t → F (tb t) = f t := ⟨fun b => match wr.cell? ⟨b, 1, none⟩ with | some (.int _ z) => z.toNat | _ => 0, fun t ht => by
          have e := (cell_at (hft t ht) 1).trans rfl
          simp only [e]
          simp⟩
        have hol : wr.ownsRow w.heap.size 94 2 (.slice (some ⟨gq, 0, none⟩) (R.map (mkR tb gp off cp Q)).length vc) (R.map (mkR tb gp off cp Q)).length ((R.map (mkR tb gp off cp Q)).flatMap encR) := by rw [List.length_map]; exact how
        have C62 := hide (sort_run gq vc w.heap.size (R.map (mkR tb gp off cp Q)) F wr (by simp; omega) (by simp; omega) hol (fun x hx => by
          obtain ⟨s, hs, rfl⟩ := List.mem_map.1 hx
          exact ⟨_, hft s.1 (hPt s hs), by simp [mkR, hF s.1 (hPt s hs)]⟩))
        rw [List.length_map] at C62
        have gw : w.heap.size ≤ gq ∧ gq < wr.heap.size := how.lt gq rfl
        have FIN : Hid (∀ (w2 : World) (L' : List RunV), L'.Perm (R.map (mkR tb gp off cp Q)) → L'.Pairwise (fun x y => ¬ cmpF F y x < 0) → w2.ownsRow w.heap.size 94 2 (.slice (some ⟨gq, 0, none⟩) R.length vc) R.length (L'.flatMap encR) → At1 gq wr w2 → RunsPost w L Q tb f gp off cp (.returned (.slice (some ⟨gq, 0, none⟩) R.length vc)) w2) := fun w2 L' e1 e2 e3 e4 => by
          obtain ⟨R', e5, rfl⟩ := perm_map_inv L' R e1
          refine ⟨_, R', rfl, by rw [e5.length_eq]; exact e3, by rw [HQ.out]; exact hsg.perm e5, ?_, hbl.trans (e4.below gw.1 (by omega))⟩
          rw [List.pairwise_map] at e2
          refine List.pairwise_iff_getElem.2 fun i j hi hj hij => ?_
          have e6 := List.pairwise_iff_getElem.1 e2 i j hi hj hij
          have pa := hPt _ (e5.subset (List.getElem_mem hi))
          have pb := hPt _ (e5.subset (List.getElem_mem hj))
          have e7 : ¬ cmpI (f R'[j].1 : Int) (f R'[i].1 : Int) < 0 := by
            have e8 := e6
            unfold cmpF mkR at e8
            simp only [hF _ pa, hF _ pb] at e8
            exact e8
          unfold cmpI at e7
          split at e7
          · omega
          · split at e7 <;> omega
        clear how hsg hbl hol hft hPt hF rl
        generalize R.length = rn at *
        go_wp2_with (go_at_call 62; refine C62.out.mono ?_; rintro e w2 ⟨rfl, L', e1, e2, e3, e4⟩; have FF := hide (FIN.out w2 L' e1 e2 e3 e4); clear e1 e2 e3 e4)
        go_ret
        exact FF.out
end Go.Proofs.Ybulkaggi.BM

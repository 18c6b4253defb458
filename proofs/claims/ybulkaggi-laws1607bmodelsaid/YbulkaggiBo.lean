import Derived.Test.YbulkaggiBn
namespace Go.Proofs.Ybulkaggi.BM
open Go.RowKit Go.Proofs.Ybulkaggi Go.Sort Go.Shelf Go.Lib
open Go.Proofs.Ybulkaggi.CE (hlt tag_ne own_tag own_keep size_set grown_alloc grown_drewN grown_cell grown_none grown_setCells info_at news2)
set_option linter.unusedVariables false
set_option maxRecDepth 100000

def trD (j gi : Nat) (p : Nat × Nat) : T3 × Nat := ((p.1, p.2, j), gi)
def both (r : Sg) (o : Sg) : List (Nat × Nat) := [(o.1, r.1), (r.1, o.1)]
theorem map_filter_mk (mk : Sg → RunV) (del : RunV → Bool) (q : Sg → Bool) (A : List Sg) (h : ∀ s ∈ A, del (mk s) = q s) : (A.map mk).filter (fun x => !del x) = (A.filter (fun s => !q s)).map mk := by
  induction A with
  | nil => rfl
  | cons s A ih =>
    have h1 := h s (List.mem_cons_self ..)
    have h2 := ih (fun s hs => h s (List.mem_cons_of_mem _ hs))
    rw [List.map_cons]
    by_cases e : q s = true
    · simp [h1, e]
      simpa using h2
    · simp [h1, e]
      simpa using h2
theorem own_RR {w : World} {base : Nat} {v : Value} {Q : List RunV} (h : w.ownsRow base 94 2 v Q.length (Q.flatMap encR)) (h0 : 0 < Q.length) : ∃ g c, v = .slice (some ⟨g, 0, none⟩) Q.length c ∧ RR base w g c Q := by
  obtain ⟨g, c, rfl⟩ := own_some h h0
  exact ⟨g, c, rfl, h⟩
theorem own_turn {N : Nat} {w w' : World} {base s n : Nat} {v : Value} {xs : List Value} (h : w.ownsRow base 94 s v n xs) (f : FT N w w') : w'.ownsRow base 94 s v n xs := own_keep h (fun b hb => by
  obtain ⟨cs, hc⟩ := own_tag h hb
  exact f.same hc (by decide))
theorem FT.of_OSt {N : Nat} {w w' : World} {X : Bx} {M : Md} {D : DT} (h : OSt N w X M D w') : FT N w w' := h.1
theorem OSt.start {N : Nat} {w w' : World} {X : Bx} {M : Md} {D : DT} (h : OSt N w X M D w') : OSt N w' X M D w' := ⟨FT.refl _ _, h.2⟩

set_option maxHeartbeats 2000000 in
theorem overlap_any (N base g n c gi j m : Nat) (X : Bx) (M : Md) (R : List Sg) (mk : Sg → RunV) (w : World) (D0 : DT) (v : Value) (hn : n ≤ 256) (hl : M.L.length = n) (hgN : N ≤ gi) (hgl : g < N) (hc : OC w g n c gi j X M R mk) (hm : R.length = m) (hR : m ≤ 4) (dis : (R.map (·.1)).Nodup)
    (hrow : w.ownsRow base 94 2 v m ((R.map mk).flatMap encR)) (hS : OSt N w X M D0 w) (hD : D0.length ≤ 200) :
    Calls Yba.prog 30 #[v, .func (.func 32) #[] #[Pp X.o, Pp X.f, Pp X.n, Pp X.b, Pp X.i, Pp X.a]] w (fun e w' => e = .returned (.tuple #[]) ∧ OSt N w X M (D0 ++ (ovK M.f M.l R m).2.map (trD j gi)) w') := by
  have HL := hide hl
  have HC := hide hc
  have HM := hide hm
  have DIS := hide dis
  have HROW := hide hrow
  have HS := hide hS
  have hN : N ≤ w.heap.size := hS.size.1
  have OV := hide (ovK_inv M.f M.l R (by omega))
  obtain ⟨va, vc, rfl⟩ := own_shape hrow
  obtain ⟨i0, hi0, hz0, hz1, hz2⟩ := info_at info94
  clear hl hc hm dis hrow hS
  go_enter Yba.func30, Yba.ntmps30
  go_wp2
  go_loopw [4, 11] (fun u q wx => ∃ k : Nat, k ≤ m ∧ q = .int .i64 (k : Int) ∧ wx.ownsRow w.heap.size 94 2 u (ovK M.f M.l R k).1.length (((ovK M.f M.l R k).1.map mk).flatMap encR) ∧ OSt N w X M (D0 ++ (ovK M.f M.l R k).2.map (trD j gi)) wx) (fun u q _ => m - (intOf q).toNat)
  case atStart => exact ⟨0, Nat.zero_le _, rfl, World.ownsRow_nil _ _ _ _, by simpa [ovK] using HS.out⟩
  case round =>
    obtain ⟨k, hk, rfl, how, hst⟩ := hrel
    by_cases hkm : k < m
    · have hkm' : (k : Int) < (m : Int) := by omega
      have hkR : k < R.length := by rw [HM.out]; exact hkm
      obtain ⟨o1, o2, o3⟩ := OV.out k (by omega)
      obtain ⟨r, hr⟩ : ∃ r, r = R[k] := ⟨_, rfl⟩
      have hrR : r ∈ R := by rw [hr]; exact List.getElem_mem _
      have hsucc := ovK_succ M.f M.l R k hkR
      rw [← hr] at hsucc
      have DNE : Hid (∀ o ∈ (ovK M.f M.l R k).1, o ∈ R ∧ o.1 ≠ r.1) := fun o ho => by
        have h1 := o1 o ho
        refine ⟨List.mem_of_mem_take h1, fun e => ?_⟩
        obtain ⟨t, ht, rfl⟩ := List.mem_iff_getElem.1 h1
        have ht' : t < k := by simp at ht; omega
        have h3 := List.pairwise_iff_getElem.1 DIS.out t k (by simp; omega) (by simp; omega) ht'
        simp only [List.getElem_map] at h3
        rw [List.getElem_take] at e
        exact h3 (by rw [e, hr])
      generalize hA : (ovK M.f M.l R k).1 = A at *
      generalize hV : (ovK M.f M.l R k).2 = V at *
      have hft := hst.1
      have hcw := HC.out.keep hft hgl
      -- the row of runs
      have hrw : wr.ownsRow base 94 2 (.slice va m vc) (R.map mk).length ((R.map mk).flatMap encR) := by
        rw [List.length_map, HM.out]
        exact own_turn HROW.out hft
      obtain ⟨gq, cq, hq, hrr⟩ := own_RR hrw (by simp; omega)
      have hq' : va = some ⟨gq, 0, none⟩ := by injection hq
      clear hq
      subst hq'
      obtain ⟨d1, d2⟩ := hrr.at_ (show k < (R.map mk).length by simp; exact hkR)
      have ek : (R.map mk)[k]'(by simp; exact hkR) = mk r := by simp [hr]
      rw [ek] at d1 d2
      have lgq := hrr.lt.1
      obtain ⟨ua, uc, rfl⟩ := own_shape how
      have hrun := hcw.run r hrR
      -- the box of r
      obtain ⟨w1, hw1⟩ : ∃ x, x = wr.alloc (.cells #[Pp (mk r).tb, .slice (some ⟨(mk r).g, (mk r).o, none⟩) (mk r).A.length (mk r).c] 94) := ⟨_, rfl⟩
      obtain ⟨A', hA'⟩ : ∃ x, x = A.filter (fun o => !decide (M.l o.1 < M.f r.1)) := ⟨_, rfl⟩
      have hg1 : wr.grownBy w1 none := by rw [hw1]; exact grown_alloc _ _
      have bx1 : w1.heap[wr.heap.size]? = some (.cells #[Pp (mk r).tb, .slice (some ⟨(mk r).g, (mk r).o, none⟩) (mk r).A.length (mk r).c] 94 (0, 0)) := by rw [hw1]; exact heap_alloc_new wr _
      have st1 := hst.grown hN hg1
      have how1 : w1.ownsRow w.heap.size 94 2 (.slice ua A.length uc) A.length ((A.map mk).flatMap encR) := own_keep how (fun b hb => hg1.block b (how.lt b hb).2 (by simp))
      have hcw1 := HC.out.keep st1.1 hgl
      -- DeleteFunc
      have DEL : Hid (Calls Yba.prog 60 #[.slice ua A.length uc, .func (.func 61) #[] #[Pp wr.heap.size]] w1 (fun e w' => ∃ u' , e = .returned u' ∧ w'.ownsRow w.heap.size 94 2 u' A'.length ((A'.map mk).flatMap encR) ∧ OSt N w X M (D0 ++ V.map (trD j gi)) w' ∧ w'.heap[wr.heap.size]? = some (.cells #[Pp (mk r).tb, .slice (some ⟨(mk r).g, (mk r).o, none⟩) (mk r).A.length (mk r).c] 94 (0, 0)))) := by
        by_cases h0 : A.length = 0
        · have hnil : A = [] := List.length_eq_zero_iff.1 h0
          rcases how1.2 with ⟨h1, _⟩ | ⟨g', cap', cur, h1, h2, h3, h4, h5, h6⟩
          · rw [h1]
            refine (del_run_nil _ w1).mono ?_
            rintro e w' ⟨rfl, rfl⟩
            refine ⟨_, rfl, ?_, st1, bx1⟩
            rw [hA', hnil]
            exact World.ownsRow_nil _ _ _ _
          · have hRR : RR w.heap.size w1 g' cap' (A.map mk) := by
              unfold RR
              rw [List.length_map, ← h1]
              exact how1
            rw [h1]
            refine (del_run (N := w.heap.size) g' cap' wr.heap.size A.length (A.map mk) (fun _ => false) w1 hRR (by simp) (by omega) (by rw [hnil]; intro x hx; simp at hx)).mono ?_
            rintro e w' ⟨mm, hmm, rfl, q1, q2⟩
            have hne : some wr.heap.size ≠ some g' := by
              have := (how.lt g' (by rw [h1]; rfl)).2
              intro e
              cases e
              omega
            refine ⟨_, rfl, ?_, ?_, (q2.block _ (hlt bx1) hne).trans bx1⟩
            · unfold RR at q1
              rw [hA', hnil]
              rw [hnil] at q1 hmm
              simp at q1 hmm
              subst hmm
              simpa using q1
            · exact st1.turn hN (fun ga e => by cases e; exact ⟨h2, cur, h3⟩) q2
        · obtain ⟨g', cap', h1, hRR⟩ := own_RR (Q := A.map mk) (by rw [List.length_map]; exact how1) (by simp; omega)
          rw [List.length_map] at h1
          obtain ⟨cur, h3⟩ := own_tag how1 (k := g') (by rw [h1]; rfl)
          have hlg := how.lt g' (by rw [h1]; rfl)
          have hne : some wr.heap.size ≠ some g' := by
            intro e
            cases e
            omega
          obtain ⟨del, hdel⟩ : ∃ del : RunV → Bool, ∀ s ∈ A, del (mk s) = decide (M.l s.1 < M.f r.1) := ⟨fun x => match w1.cell? ⟨x.tb, 2, none⟩ with | some (.int _ z) => decide (z < (M.f r.1 : Int)) | _ => false, fun s hs => by
            have e := (cell_at (hcw1.run s (DNE.out s hs).1).blk 2).trans rfl
            simp only [e]
            simp⟩
          have hclo : CloAt w1 g' wr.heap.size del (A.map mk) := fun x hx w' hg' => by
            obtain ⟨s, hs, rfl⟩ := List.mem_map.1 hx
            rw [hdel s hs]
            have e1 := (hcw1.run s (DNE.out s hs).1).blk
            have e2 := (hcw1.run r hrR).blk
            have e1' := (hg'.block _ (hlt e1) (fun e => by cases e; rw [e1] at h3; cases h3)).trans e1
            have e2' := (hg'.block _ (hlt e2) (fun e => by cases e; rw [e2] at h3; cases h3)).trans e2
            have e3' := (hg'.block _ (hlt bx1) hne).trans bx1
            have := clo61 (mk s).tb (.slice (some ⟨(mk s).g, (mk s).o, none⟩) (mk s).A.length (mk s).c) wr.heap.size (mk r).tb (M.l s.1 : Int) (M.f r.1 : Int) w' (hlt e3') (hlt e2') (hlt e1') ((cell_at e3' 0).trans rfl) ((cell_at e2' 1).trans rfl) ((cell_at e1' 2).trans rfl)
            have ed : decide ((M.l s.1 : Int) < (M.f r.1 : Int)) = decide (M.l s.1 < M.f r.1) := by simp
            rw [ed] at this
            exact this
          rw [h1]
          refine (del_run (N := w.heap.size) g' cap' wr.heap.size A.length (A.map mk) del w1 hRR (by simp) (by omega) hclo).mono ?_
          rintro e w' ⟨mm, hmm, rfl, q1, q2⟩
          rw [map_filter_mk mk del (fun s => decide (M.l s.1 < M.f r.1)) A hdel, ← hA'] at q1 hmm
          refine ⟨_, rfl, ?_, st1.turn hN (fun ga e => by cases e; exact ⟨hlg.1, cur, h3⟩) q2, (q2.block _ (hlt bx1) hne).trans bx1⟩
          unfold RR at q1
          rw [List.length_map] at q1 hmm
          rw [hmm]
          exact q1
      have hAl : A'.length ≤ A.length := by rw [hA']; exact List.length_filter_le ..
      have MEM : Hid (∀ o ∈ A', o ∈ R ∧ o.1 ≠ r.1) := fun o ho => DNE.out o (by rw [hA'] at ho; exact (List.mem_filter.1 ho).1)
      have SUC : Hid (ovK M.f M.l R (k + 1) = (A' ++ [r], V ++ A'.flatMap (both r))) := by
        rw [hsucc]
        unfold ovS
        rw [hA, hV, hA']
        rfl
      have VO : Hid (∀ (i : Nat) (o : Sg), A'[i]? = some o → ∀ (wx : World) (D : DT), OSt N w X M D wx → D.length ≤ 400 → Calls Yba.prog 32 #[.agg #[Pp (mk o).tb, .slice (some ⟨(mk o).g, (mk o).o, none⟩) (mk o).A.length (mk o).c], .agg #[Pp (mk r).tb, .slice (some ⟨(mk r).g, (mk r).o, none⟩) (mk r).A.length (mk r).c], Pp X.o, Pp X.f, Pp X.n, Pp X.b, Pp X.i, Pp X.a] wx (fun e w' => e = .returned (.tuple #[]) ∧ OSt N wx X M (D ++ [((o.1, r.1, j), gi)]) w')) := fun i o ho wx D hS hD => by
        obtain ⟨e1, e2⟩ := MEM.out o (List.mem_of_getElem? ho)
        exact vis_call N g n c gi j X M R mk wx D hn HL.out hgN (HC.out.keep hS.1 hgl) hS.start hD o r e1 hrR e2
      have VR : Hid (∀ (i : Nat) (o : Sg), A'[i]? = some o → ∀ (wx : World) (D : DT), OSt N w X M D wx → D.length ≤ 400 → Calls Yba.prog 32 #[.agg #[Pp (mk r).tb, .slice (some ⟨(mk r).g, (mk r).o, none⟩) (mk r).A.length (mk r).c], .agg #[Pp (mk o).tb, .slice (some ⟨(mk o).g, (mk o).o, none⟩) (mk o).A.length (mk o).c], Pp X.o, Pp X.f, Pp X.n, Pp X.b, Pp X.i, Pp X.a] wx (fun e w' => e = .returned (.tuple #[]) ∧ OSt N wx X M (D ++ [((r.1, o.1, j), gi)]) w')) := fun i o ho wx D hS hD => by
        obtain ⟨e1, e2⟩ := MEM.out o (List.mem_of_getElem? ho)
        exact vis_call N g n c gi j X M R mk wx D hn HL.out hgN (HC.out.keep hS.1 hgl) hS.start hD r o hrR e1 (Ne.symm e2)
      have hrr1 : encR (mk r) = [Pp (mk r).tb, .slice (some ⟨(mk r).g, (mk r).o, none⟩) (mk r).A.length (mk r).c] := rfl
      have ENR := hide hrr1
      have K : Hid (∀ w'', w'' = wr.alloc (.cells #[Pp (mk r).tb, .slice (some ⟨(mk r).g, (mk r).o, none⟩) (mk r).A.length (mk r).c] 94) → Calls Yba.prog 60 #[.slice ua A.length uc, .func (.func 61) #[] #[Pp wr.heap.size]] w'' (fun e w' => ∃ u' , e = .returned u' ∧ w'.ownsRow w.heap.size 94 2 u' A'.length ((A'.map mk).flatMap encR) ∧ OSt N w X M (D0 ++ V.map (trD j gi)) w' ∧ w'.heap[wr.heap.size]? = some (.cells #[Pp (mk r).tb, .slice (some ⟨(mk r).g, (mk r).o, none⟩) (mk r).A.length (mk r).c] 94 (0, 0)))) := fun w'' e => by rw [e, ← hw1]; exact DEL.out
      have hVl : (V.map (trD j gi)).length ≤ 32 := by rw [List.length_map]; omega
      obtain ⟨bx, hbx⟩ : ∃ b, b = wr.heap.size := ⟨_, rfl⟩
      clear DEL how how1 st1 hst hft hcw hcw1 hrw hrr hrun hg1 bx1 hw1 ek hsucc hA' DNE hrr1 hA hV
      clear w1
      generalize (mk r).tb = B at *
      generalize (mk r).g = sg at *
      generalize (mk r).o = so at *
      generalize (mk r).A.length = sl at *
      generalize (mk r).c = sc at *
      go_upto_region 4 with fail
      rw [← hbx] at K
      rw [← hbx]
      clear hbx
      go_cut [4] (fun u wx => wx.ownsRow w.heap.size 94 2 u A'.length ((A'.map mk).flatMap encR) ∧ OSt N w X M (D0 ++ V.map (trD j gi)) wx ∧ wx.heap[bx]? = some (.cells #[Pp B, .slice (some ⟨sg, so, none⟩) sl sc] 94 (0, 0)))
      case first =>
        go_wp2_with (go_at_call 60; refine (K.out _ rfl).mono ?_; rintro e w' ⟨u', rfl, g123⟩; have GG := hide g123; clear g123)
        go_meet
        exact GG.out
      case rest =>
        obtain ⟨p1, p2, p3⟩ := hcut
        obtain ⟨ua', uc', rfl⟩ := own_shape p1
        have P1 := hide p1
        have P2 := hide p2
        have P3 := hide p3
        have CEL : Hid (∀ (wx : World) (D : DT), OSt N wc X M D wx → ∀ i, i < A'.length → ∃ o, A'[i]? = some o ∧ ∃ ga, ua' = some ⟨ga, 0, none⟩ ∧ wx.cell? ⟨ga, i * 2, none⟩ = some (Pp (mk o).tb) ∧ wx.cell? ⟨ga, i * 2 + 1, none⟩ = some (.slice (some ⟨(mk o).g, (mk o).o, none⟩) (mk o).A.length (mk o).c) ∧ ga < wx.heap.size) := fun wx D hS i hi => by
          have h1 : wx.ownsRow w.heap.size 94 2 (.slice ua' A'.length uc') (A'.map mk).length ((A'.map mk).flatMap encR) := by
            rw [List.length_map]
            exact own_turn P1.out hS.1
          obtain ⟨ga, ca, h2, h3⟩ := own_RR h1 (by simp; omega)
          injection h2 with h4
          have h5 := h3.at_ (show i < (A'.map mk).length by simp; exact hi)
          have h6 : (A'.map mk)[i]'(by simp; exact hi) = mk A'[i] := by simp
          rw [h6] at h5
          exact ⟨A'[i], List.getElem?_eq_getElem hi, ga, h4, h5.1, h5.2, h3.lt.1⟩
        have BOX : Hid (∀ (wx : World) (D : DT), OSt N wc X M D wx → wx.cell? ⟨bx, 0, none⟩ = some (Pp B) ∧ wx.cell? ⟨bx, 1, none⟩ = some (.slice (some ⟨sg, so, none⟩) sl sc) ∧ bx < wx.heap.size) := fun wx D hS => by
          have h1 := hS.1.cells P3.out (by decide)
          exact ⟨(cell_at h1 0).trans rfl, (cell_at h1 1).trans rfl, hlt h1⟩
        have hNc : N ≤ wc.heap.size := p2.size.1
        clear p1 p2 p3 K d1 d2
        generalize hwo : wr = wo at *
        clear hwo
        have hAl' : A'.length ≤ 4 := by omega
        obtain ⟨m', hm'⟩ : ∃ x, x = A'.length := ⟨_, rfl⟩
        rw [← hm'] at CEL P1 hAl' ⊢
        have HM' := hide hm'
        clear hm'
        go_wp2
        go_loopw [20] (fun q wx => ∃ i : Nat, i ≤ m' ∧ q = .int .i64 (i : Int) ∧ OSt N wc X M (D0 ++ V.map (trD j gi) ++ ((A'.take i).flatMap (both r)).map (trD j gi)) wx) (fun q _ => m' - (intOf q).toNat)
        case atStart => exact ⟨0, Nat.zero_le _, rfl, by simpa using P2.out.start⟩
        case round =>
          obtain ⟨i, hi, rfl, hst⟩ := hrel
          obtain ⟨b0, b1, bl⟩ := BOX.out wr _ hst
          by_cases him : i < m'
          · have him' : (i : Int) < (m' : Int) := by omega
            obtain ⟨o, ho, ga, hga, e1, e2, lga⟩ := CEL.out wr _ hst i him
            subst hga
            obtain ⟨Di, hDi⟩ : ∃ x, x = D0 ++ V.map (trD j gi) ++ ((A'.take i).flatMap (both r)).map (trD j gi) := ⟨_, rfl⟩
            have hDl : Di.length ≤ 300 := by
              rw [hDi, List.length_append, List.length_append]
              have := two_len (fun o : Sg => (o.1, r.1)) (fun o : Sg => (r.1, o.1)) (A'.take i)
              have h9 : ((A'.take i).flatMap (both r)).length = 2 * (A'.take i).length := this
              have h10 : (((A'.take i).flatMap (both r)).map (trD j gi)).length = 2 * (A'.take i).length := by rw [List.length_map, h9]
              have h11 : (A'.take i).length ≤ 4 := by simp; omega
              rw [h10]
              omega
            have NXT := hide (show D0 ++ V.map (trD j gi) ++ ((A'.take (i + 1)).flatMap (both r)).map (trD j gi) = Di ++ [((o.1, r.1, j), gi)] ++ [((r.1, o.1, j), gi)] by
              rw [hDi, List.take_add_one, ho, List.flatMap_append, List.map_append]
              simp [both, trD])
            rw [← hDi] at hst
            have HST := hide hst
            have K1 : Hid (∀ W, W = wr.alloc (.cells #[Pp (mk o).tb, .slice (some ⟨(mk o).g, (mk o).o, none⟩) (mk o).A.length (mk o).c] 94) → Calls Yba.prog 32 #[.agg #[Pp (mk o).tb, .slice (some ⟨(mk o).g, (mk o).o, none⟩) (mk o).A.length (mk o).c], .agg #[Pp B, .slice (some ⟨sg, so, none⟩) sl sc], Pp X.o, Pp X.f, Pp X.n, Pp X.b, Pp X.i, Pp X.a] W (fun e w' => e = .returned (.tuple #[]) ∧ OSt N wc X M (Di ++ [((o.1, r.1, j), gi)]) w' ∧ w'.cell? ⟨wr.heap.size, 0, none⟩ = some (Pp (mk o).tb) ∧ w'.cell? ⟨wr.heap.size, 1, none⟩ = some (.slice (some ⟨(mk o).g, (mk o).o, none⟩) (mk o).A.length (mk o).c) ∧ w'.cell? ⟨bx, 0, none⟩ = some (Pp B) ∧ w'.cell? ⟨bx, 1, none⟩ = some (.slice (some ⟨sg, so, none⟩) sl sc))) := fun W hW => by
              have g1 : OSt N wc X M Di W := by rw [hW]; exact HST.out.grown hNc (grown_alloc _ _)
              refine (VO.out i o ho W Di (P2.out.via g1) (by omega)).mono ?_
              rintro e w' ⟨he, hq⟩
              have g2 : OSt N wc X M (Di ++ [((o.1, r.1, j), gi)]) w' := g1.via hq
              have g3 := hq.1.cells (show W.heap[wr.heap.size]? = some (.cells #[Pp (mk o).tb, .slice (some ⟨(mk o).g, (mk o).o, none⟩) (mk o).A.length (mk o).c] 94 (0, 0)) by rw [hW]; exact heap_alloc_new wr _) (by decide)
              obtain ⟨g4, g5, g6⟩ := BOX.out w' _ g2
              exact ⟨he, g2, (cell_at g3 0).trans rfl, (cell_at g3 1).trans rfl, g4, g5⟩
            have K2 : Hid (∀ W, OSt N wc X M (Di ++ [((o.1, r.1, j), gi)]) W → Calls Yba.prog 32 #[.agg #[Pp B, .slice (some ⟨sg, so, none⟩) sl sc], .agg #[Pp (mk o).tb, .slice (some ⟨(mk o).g, (mk o).o, none⟩) (mk o).A.length (mk o).c], Pp X.o, Pp X.f, Pp X.n, Pp X.b, Pp X.i, Pp X.a] W (fun e w' => e = .returned (.tuple #[]) ∧ OSt N wc X M (D0 ++ V.map (trD j gi) ++ ((A'.take (i + 1)).flatMap (both r)).map (trD j gi)) w')) := fun W hS => by
              refine (VR.out i o ho W _ (P2.out.via hS) (by simp; omega)).mono ?_
              rintro e w' ⟨he, hq⟩
              exact ⟨he, by rw [NXT.out]; exact hS.via hq⟩
            clear hst hDi ho NXT
            generalize (mk o).tb = B2 at *
            generalize (mk o).g = sg2 at *
            generalize (mk o).o = so2 at *
            generalize (mk o).A.length = sl2 at *
            generalize (mk o).c = sc2 at *
            go_upto_region 9 with (go_at_call 32; refine (K1.out _ rfl).mono ?_; rintro e w' ⟨rfl, k1, k2, k3, k4, k5⟩; have G1 := hide k1; clear k1)
            go_wp2_with (go_at_call 32; refine (K2.out _ G1.out).mono ?_; rintro e w'' ⟨rfl, k6⟩; have G2 := hide k6; clear k6)
            go_roundw
            case rel => exact ⟨i + 1, by omega, by go_num, G2.out⟩
            case measure => simp [intOf]; omega
          · obtain rfl : i = m' := by omega
            have him' : ¬ (i : Int) < (i : Int) := by omega
            have OW := hide (own_turn P1.out hst.1)
            have ST := hide (P2.out.via hst)
            have hsz : w.heap.size ≤ wr.heap.size := ST.out.size.2
            have FIN : Hid (∀ (v' : Value) (w3 : World) (o : Obj), w3.ownsRow w.heap.size 94 2 v' (i + 1) ((A'.map mk).flatMap encR ++ [Pp B, .slice (some ⟨sg, so, none⟩) sl sc]) → (wr.alloc o).grownBy w3 (Value.slice ua' i uc').ownBlock → w3.ownsRow w.heap.size 94 2 v' (ovK M.f M.l R (k + 1)).1.length (((ovK M.f M.l R (k + 1)).1.map mk).flatMap encR) ∧ OSt N w X M (D0 ++ (ovK M.f M.l R (k + 1)).2.map (trD j gi)) w3) := fun v' w3 o e1 e2 => by
              rw [SUC.out]
              refine ⟨?_, ?_⟩
              · show w3.ownsRow w.heap.size 94 2 v' (A' ++ [r]).length (((A' ++ [r]).map mk).flatMap encR)
                rw [List.map_append, List.flatMap_append, List.length_append, ← HM'.out]
                show w3.ownsRow w.heap.size 94 2 v' (i + 1) ((A'.map mk).flatMap encR ++ ([mk r].flatMap encR))
                have e9 : [mk r].flatMap encR = [Pp B, .slice (some ⟨sg, so, none⟩) sl sc] := by rw [← ENR.out]; simp
                rw [e9]
                exact e1
              · have h5 := (ST.out.grown hN (grown_alloc wr o)).turn hN (fun ga e => by
                  have h6 := OW.out.lt ga e
                  obtain ⟨cs, hcs⟩ := own_tag OW.out e
                  exact ⟨h6.1, cs, (Below.heap_alloc wr o ga h6.2).trans hcs⟩) e2
                rw [HM'.out, List.take_length] at h5
                show OSt N w X M (D0 ++ (V ++ A'.flatMap (both r)).map (trD j gi)) w3
                rw [List.map_append, ← List.append_assoc]
                exact h5
            clear hst CEL BOX VO VR P1 P2 P3
            generalize (A'.map mk).flatMap encR = XS at *
            go_wp2_with (at_builtin; refine wpList_append_own_at _ rfl _ _ 90 rfl w.heap.size 94 i0 _ 2 32 Yba.underlying90 hi0 hz0 hz1 hz2 rfl (by decide) (.slice ua' i uc') i XS rfl (OW.out.alloc _) ⟨wr.heap.size, 0, none⟩ 1 1 [Pp B, .slice (some ⟨sg, so, none⟩) sl sc] rfl rfl (news_at wr #[Pp B, .slice (some ⟨sg, so, none⟩) sl sc] 94) (by simp [Value.oneCell']) (by unfold maxLen; omega) (by omega) (by simp; omega) ?_; intro v' w3 e2 e3 _ _; have FF := hide (FIN.out v' w3 _ e2 e3); clear e2 e3)
            go_roundw
            case rel => exact ⟨k + 1, by omega, by go_num, FF.out⟩
            case measure => simp [intOf]; omega
    · have hkm' : ¬ (k : Int) < (m : Int) := by omega
      obtain rfl : k = m := by omega
      have HT := hide hst
      clear hst how
      go_wp2
      go_end0
      exact ⟨rfl, HT.out⟩
end Go.Proofs.Ybulkaggi.BM

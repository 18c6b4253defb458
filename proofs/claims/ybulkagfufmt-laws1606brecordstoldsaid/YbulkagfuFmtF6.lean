import Derived.Test.YbulkagfuFmtF6c
namespace Go.Proofs.YbulkagfuFmt
open Go.RowKit Go.WideMaps Go.Maps Go.Extern.Stop Go.Stop Go.Extern Go.MuLone
set_option linter.unusedVariables false
set_option maxRecDepth 100000

set_option maxHeartbeats 1000000 in
theorem message_ok (sb ib mb nI kk n c base : Nat) (DI : DataW Unit) (sf nm : ByteArray) (m : Int) (R M K : Nat → Nat) (mk : Nat → Nat → Bool) (wt : Nat → Int) (T : Nat → Nat → List Int) (B : Nat → Nat → Option Nat) (w : World)
    (hs : w.heap[sb]? = some (.cells (snapC 0 sf (some ib) (some mb)) 38 (0, 0))) (hI : w.ownsMap Ybaf.prog 9 (plainElem Ybaf.prog 3) ib nI DI) (hsz : nm.size ≤ maxLen)
    (hat : DI.atKey (.string nm.data.toList) (.lit (.int .i64 0)) = .lit (.int .i64 c)) (hh : Maps.has DI (.string nm.data.toList) = true)
    (hD : w.ownsMap Ybaf.prog 49 ptrElem mb kk (DR R kk)) (hR : Recs w base kk n R M K mk wt T B) (hc : c < n) (hn : n ≤ 4) (hk : kk ≤ 4) (hT : ∀ i j, (T i j).length ≤ 3) (hb : base ≤ w.heap.size) (hsb : base ≤ sb) (hMb : ∀ i, i < kk → base ≤ M i) :
    Calls Ybaf.prog 5 #[.pointer (some ⟨sb, 0, none⟩), .string nm, .int .i64 m] w fun e w' => e = .returned .nilIface ∧ Fr base w w' ∧ ∃ B', Recs w' base kk n R M K mk wt (fun i => if mk i c then T i else upd (T i) c (T i c ++ [m])) B' := by
  have h0 := (cell_at hs 0).trans rfl
  have f0 := free_at hs 0
  have nI := map_ne hs hI
  have nD := map_ne hs hD
  go_enter_defers Ybaf.func5, Ybaf.ntmps5
  go_upto_region 3 with (go_at_call 6; refine (lock_free Ybaf.muLib ⟨sb, 0, none⟩ _ h0 f0).mono ?_; rintro e w' ⟨rfl, rfl⟩)
  have hlt : sb < w.heap.size := (Array.getElem?_eq_some_iff.1 hs).1
  have hs1 : (w.setCell ⟨sb, 0, none⟩ (.int .i32 1)).heap[sb]? = some (.cells (snapC 1 sf (some ib) (some mb)) 38 (0, 0)) := (heap_setCell_same w sb 0 _ 38 (.int .i32 1) hs).trans rfl
  have hI1 := hI.setCell (a := ⟨sb, 0, none⟩) nI (.int .i32 1)
  have hD1 := hD.setCell (a := ⟨sb, 0, none⟩) nD (.int .i32 1)
  have hR1 : Recs (w.setCell ⟨sb, 0, none⟩ (.int .i32 1)) base kk n R M K mk wt T B := hR.but (x := sb) (fun k _ hk => Below.heap_setCell w ⟨sb, 0, none⟩ _ k hk) (fun cs t ht => by rw [hs] at ht; simp at ht; rw [← ht.2]; decide)
  have hb1 : base ≤ (w.setCell ⟨sb, 0, none⟩ (.int .i32 1)).heap.size := by simpa [World.setCell] using hb
  have hF1 : Fr base w (w.setCell ⟨sb, 0, none⟩ (.int .i32 1)) := (Fr.refl base w).set38 hs hsb _
  generalize w.setCell ⟨sb, 0, none⟩ (.int .i32 1) = W1 at *
  clear hs hI hD hR hb h0 f0 nI nD hlt
  have g2 := (cell_at hs1 3).trans rfl
  have g7 := (cell_at hs1 7).trans rfl
  go_upto_region 6 with (go_at_call 8; refine (channel_hit sb ib _ c DI nm _ g2 hI1 hsz hat hh).mono ?_; rintro e w' ⟨rfl, hw⟩; obtain rfl := hw.symm)
  go_wp2_with (at_range; refine wpList_range_own _ rfl _ 35 rfl 49 40 lawK Ybaf.underlying35 ptrElem mb kk (DR R kk) rfl hD1 ?_; intro w0 hrg0 hg0 hs0)
  go_frame
  obtain ⟨r, hr⟩ : ∃ r, W1.heap.size = r := ⟨_, rfl⟩
  rw [hr] at hrg0 ⊢
  have hR0 : Recs w0 base kk n R M K mk wt T B := hR1.keep (fun k hk => hg0.block k hk (by simp))
  have hS0 : w0.heap[sb]? = some (.cells (snapC 1 sf (some ib) (some mb)) 38 (0, 0)) := (hg0.block sb (Array.getElem?_eq_some_iff.1 hs1).1 (by simp)).trans hs1
  have hb0 : base ≤ w0.heap.size := Nat.le_trans hb1 hg0.size
  have hF0 : Fr base w w0 := hF1.grown hg0 hb1 (fun k h => by cases h)
  have hrb : base ≤ r := by omega
  clear hR1 hs1 hg0 hs0 hb1 hI1 hD1 g2 g7 hr hF1
  go_loopw [10] (fun _ wx => ∃ (left : Lit → Bool) (cnt : Nat) (Bx : Nat → Nat → Option Nat), wx.ranges Ybaf.prog 49 ptrElem mb r kk (DR R kk) left cnt ∧ Recs wx base kk n R M K mk wt (fun i => if left (klit (i + 1)) then T i else if mk i c then T i else upd (T i) c (T i c ++ [m])) Bx ∧ wx.heap[sb]? = some (.cells (snapC 1 sf (some ib) (some mb)) 38 (0, 0)) ∧ base ≤ wx.heap.size ∧ Fr base w wx) (fun _ wx => wx.rangeLeft mb r)
  case atStart => exact ⟨_, _, B, hrg0, hR0.congr (fun i hi => by rw [DR_has R kk hk i hi]; rfl), hS0, hb0, hF0⟩
  case round =>
    obtain ⟨left, cnt, Bx, hrg, hRx, hSx, hbx, hFx⟩ := hrel
    go_wp2_with (at_next; refine wpList_next_ranges _ rfl _ rfl 49 lawK ptrElem (fun x : Value => x) (fun b : Nat => Value.pointer (some ⟨b, 0, none⟩)) (fun key kl _ => ⟨key, rfl⟩) (fun v y hv => (ptrElem_inv hv).elim fun b h => ⟨b, h.1⟩) mb r kk _ _ _ rfl hrg ?_ ?_)
    · intro hc0 hl0
      have HR : Hid (Recs wr base kk n R M K mk wt (fun i => if mk i c then T i else upd (T i) c (T i c ++ [m])) Bx) := hRx.congr (fun i hi => by rw [hl0]; rfl)
      have u0 := (cell_at hSx 0).trans rfl
      have z0 := free_at hSx 0
      have HS := hide hSx
      have HF := hide hFx
      clear hRx hrg hl0 hc0 hFx
      go_wp2
      refine leaves_cons (f := 7) (args := #[.pointer (some ⟨sb, 0, none⟩)]) (by simp) (by simp [go_sem]) ?_
      refine (unlock_deferred Ybaf.muLib ⟨sb, 0, none⟩ .returning _ u0 z0).mono ?_
      rintro e u' w'' ⟨rfl, rfl, rfl⟩
      exact ⟨_, results_tmp rfl _ _ _, rfl, (unhide HF).set38 (unhide HS) hsb _, Bx, (unhide HR).but (x := sb) (fun k _ hk => Below.heap_setCell wr ⟨sb, 0, none⟩ _ k hk) (fun cs t ht => by rw [HS.out] at ht; simp at ht; rw [← ht.2]; decide)⟩
    · intro x b kl ya yb w1 cnt1 hkey hlk hv hatk hrg1 hlt1 hgr hsz1 hen
      obtain ⟨i, hi, hkl, hy⟩ := DR_at R kk hk kl ya hatk
      have hbi : b = R i := by
        rw [ptrElem_mk] at hv
        simp only [Option.some.injEq, Prod.mk.injEq] at hv
        have h9 := hv.1.trans hy
        simp only [DataW.lit.injEq, Lit.int.injEq, true_and] at h9
        omega
      subst hbi
      subst hkl
      have hR1 := hRx.but (x := r) (fun k hk hne => hgr.block k hk (fun e => hne (Option.some.inj e))) (fun cs t ht => by
        obtain ⟨es, clock, since, seen, c0, _, _, _, _, hr, _⟩ := hrg
        rw [ht] at hr
        cases hr)
      have hS1 : w1.heap[sb]? = some (.cells (snapC 1 sf (some ib) (some mb)) 38 (0, 0)) := (hgr.block sb (Array.getElem?_eq_some_iff.1 hSx).1 (fun e => by
        obtain ⟨es, clock, since, seen, c0, _, _, _, _, hr, _⟩ := hrg
        rw [← Option.some.inj e, hSx] at hr
        cases hr)).trans hSx
      have hb1 : base ≤ w1.heap.size := by omega
      have hF1 : Fr base w w1 := hFx.grown hgr hbx (fun k h => by
        obtain rfl := Option.some.inj h
        refine ⟨hrb, fun cs e => ?_⟩
        obtain ⟨_, _, _, _, _, hr⟩ := ranges_map hrg
        rw [hr] at e
        cases e)
      have hri := hR1.each i hi
      have c1 := (cell_at hri.self 1).trans rfl
      have c2 := (cell_at hri.self 2).trans rfl
      obtain ⟨ks, k1, k2⟩ := hri.mrk
      have c3 := (cell_at k1 c).trans (k2 c hc)
      have HLK := hide hlk
      have HRG := hide hrg
      have HRG1 := hide hrg1
      have HR1 := hide hR1
      have HS1 := hide hS1
      have HLT := hide hlt1
      have HF1 := hide hF1
      have hcn : (c : Int) < (n : Int) := by omega
      clear hrg hrg1 hR1 hRx hS1 hSx hgr hkey hv hatk hlt1 hlk k1 k2 hri hFx hF1
      cases hmk : mk i c with
      | true =>
        rw [hmk] at c3
        go_wp2
        go_roundw
        case rel =>
          refine ⟨_, _, Bx, unhide HRG1, (unhide HR1).congr (fun a ha => ?_), unhide HS1, hb1, unhide HF1⟩
          by_cases e : a = i
          · subst e
            simp [hmk]
          · have : (klit (a + 1)).sameKey (klit (i + 1)) = false := by rw [klit_same _ _ (by omega) (by omega)]; simp [e]
            simp [this]
        case measure => rw [(unhide HRG1).left_eq, (unhide HRG).left_eq]; exact HLT.out
      | false =>
        rw [hmk] at c3
        obtain ⟨Tx, hTx⟩ : ∃ Tx : Nat → Nat → List Int, Tx = (fun i => if left (klit (i + 1)) then T i else if mk i c then T i else upd (T i) c (T i c ++ [m])) := ⟨_, rfl⟩
        have eT : Tx i = T i := by rw [hTx]; simp [HLK.out]
        have hR2 : Recs w1 base kk n R M K mk wt Tx Bx := by rw [hTx]; exact unhide HR1
        have hri := hR2.each i hi
        rw [eT] at hri
        obtain ⟨cs, m1, m2⟩ := hri.msg
        obtain ⟨v, m3, m4, m5⟩ := m2 c hc
        obtain ⟨va, vn, vc, rfl⟩ := sl_shape m4
        have c4 := (cell_at m1 c).trans m3
        have z4 := free_at m1 c
        have HMM := hide (And.intro m4 m5)
        have HRI := hide hri
        have HM1 := hide m1
        have HR2 := hide hR2
        have HTX := hide hTx
        clear hri m1 m2 m3 m4 m5 hR2 hTx
        go_upto_region 10 with fail
        refine wp_then (region10 (base := base) (m := m) (va := va) (vn := vn) (vc := vc) (unhide HRI) hc hn (hT i c) hb1 c4 z4 HMM.out.1 HMM.out.2 ?_)
        intro t44 t45 t46 t47 t48 t49 t50 t51 t52 t53 t54 t55 t56 t57 t58 t59 v' w3 wx ho hg hl hwx hos htp hout
        have hpush := (unhide HR2).push (i := i) (c := c) (m := m) (v := .slice va vn vc) (v' := v') (o := .cells #[.int .i64 m] 3) hi hc HMM.out.2 hg (by rw [eT]; exact ho) hl
        obtain ⟨p1, p2⟩ := hpush
        have hnb : ∀ k, (∀ cs, w1.heap[k]? ≠ some (.cells cs 3 (0, 0))) → some k ≠ Bx i c := fun k hk e => by
          obtain ⟨ys, hy⟩ := (unhide HRI).tag hc e.symm
          exact hk ys hy
        have hkeep : ∀ k, k < w1.heap.size → k ≠ M i → some k ≠ Bx i c → wx.heap[k]? = w1.heap[k]? := fun k h1 h2 h3 => by rw [hwx]; exact p2 k h1 h2 h3
        obtain ⟨⟨es, cl, q1⟩, ma, mb', mc, md, q2⟩ := ranges_map (unhide HRG1)
        have hlt : ∀ {k : Nat} {x : Obj}, w1.heap[k]? = some x → k < w1.heap.size := fun h => (Array.getElem?_eq_some_iff.1 h).1
        have hm1 := unhide HM1
        have k1 : wx.heap[mb]? = w1.heap[mb]? := hkeep mb (hlt q1) (fun e => by rw [e, hm1] at q1; cases q1) (hnb mb (fun cs e => by rw [q1] at e; cases e))
        have k2 : wx.heap[r]? = w1.heap[r]? := hkeep r (hlt q2) (fun e => by rw [e, hm1] at q2; cases q2) (hnb r (fun cs e => by rw [q2] at e; cases e))
        have hS1 := unhide HS1
        have k3 : wx.heap[sb]? = w1.heap[sb]? := hkeep sb (hlt hS1) (tag_ne hS1 hm1 (by decide)) (hnb sb (fun cs e => by rw [hS1] at e; simp at e))
        have hzx : w1.heap.size ≤ wx.heap.size := by
          have h1 := hg.size
          have h2 : wx.heap.size = w3.heap.size := by rw [hwx]; simp [World.setCell]
          simp at h1
          omega
        have hFx : Fr base w wx := (unhide HF1).step (fun k => k = M i ∨ some k = Bx i c) (hos.trans (hg.os.trans rfl)) (htp.trans (hg.tape.trans rfl)) (hout.trans (hg.output.trans rfl)) hzx (fun k hk hne => hkeep k hk (fun e => hne (.inl e)) (fun e => hne (.inr e))) hb1 (fun k hk => by
          rcases hk with rfl | hk
          · exact ⟨hMb i hi, fun cs' e => by rw [hm1] at e; simp at e⟩
          · obtain ⟨ys, hy⟩ := (unhide HRI).tag hc hk.symm
            exact ⟨(unhide HRI).own_base hc hk.symm, fun cs' e => by rw [hy] at e; simp at e⟩)
        have hRx : Recs wx base kk n R M K mk wt (upd Tx i (upd (Tx i) c (Tx i c ++ [m]))) (upd Bx i (upd (Bx i) c v'.ownBlock)) := p1.keep (fun k _ => by rw [hwx])
        have HRX := hide hRx
        have HFX := hide hFx
        have HK1 := hide k1
        have HK2 := hide k2
        have HK3 := hide k3
        clear hRx hFx k1 k2 k3 p1 p2 hkeep hnb q1 q2 hm1 hS1 hos htp hout hwx hg ho hl c4 z4
        go_wp2
        go_roundw
        case rel =>
          refine ⟨_, _, _, ranges_keep (unhide HRG1) (unhide HK1) (unhide HK2), (unhide HRX).congr (fun a ha => ?_), (unhide HK3).trans (unhide HS1), by omega, unhide HFX⟩
          rw [unhide HTX]
          by_cases e : a = i
          · subst e
            have : (klit (a + 1)).sameKey (klit (a + 1)) = true := by rw [klit_same _ _ (by omega) (by omega)]; simp
            simp [upd, this, hmk, HLK.out]
          · have : (klit (a + 1)).sameKey (klit (i + 1)) = false := by rw [klit_same _ _ (by omega) (by omega)]; simp [e]
            simp [upd, e, this]
        case measure => rw [(ranges_keep (unhide HRG1) (unhide HK1) (unhide HK2)).left_eq, (unhide HRG).left_eq]; exact HLT.out

end Go.Proofs.YbulkagfuFmt

import Derived.Test.YbulkaggiBv
import Derived.Test.YbulkaggiBz
namespace Go.Proofs.Ybulkaggi.BM
open Go.RowKit Go.Proofs.Ybulkaggi Go.Sort Go.Shelf Go.Lib
open Go.Proofs.Ybulkaggi.CE (hlt tag_ne own_tag own_keep size_set grown_alloc grown_drewN grown_none info_at rgOf sl_shape grown_of_drew len_le)
set_option linter.unusedVariables false
set_option maxRecDepth 100000

theorem fi_le {L : List O3} {i t p q : Nat} (h1 : Fi L i t p) (h2 : La L i t q) : p ≤ q := by
  rcases Nat.lt_or_ge q p with e | e
  · exact absurd h1.at_ (h2.no p e h1.lt)
  · exact e
theorem acc_ok {L : List O3} (ok : ∀ i (h : i < L.length), OkO L[i]) {p : Nat} (h : Acc L p) : 1 ≤ tD L p ∧ tD L p ≤ 4 ∧ iD L p < 3 := by
  have hp : p < L.length := h.1
  have := ok p hp
  clear h
  unfold tD iD opD
  rw [getD_at hp]
  exact ⟨this.t1, this.t4, this.i⟩
theorem acc_it {w : World} {g : Nat} {L : List O3} (h : OpsAt w g L) {p : Nat} (hp : Acc L p) : w.cell? ⟨g, p * 3 + 2, none⟩ = some (.string (itS (iD L p))) := by
  have hl : p < L.length := hp.1
  have e := h.i p hl
  have h2 := hp.2
  clear hp
  unfold opD at h2
  unfold iD opD
  rw [getD_at hl] at h2 ⊢
  rw [e]
  unfold itB
  rw [if_neg (by omega)]
theorem vis_bd {L : List O3} {f l s : Nat → Nat} (ok : ∀ i (h : i < L.length), OkO L[i]) {t : T3} (h : (PM L f l s).vis t = true) : t.1 ≤ 4 ∧ t.2.1 ≤ 4 ∧ t.2.2 < 3 ∧ 1 ≤ t.1 ∧ 1 ≤ t.2.1 := by
  obtain ⟨a, b, j⟩ := t
  obtain ⟨_, _, _, h1, h2⟩ := (vis_iff L f l s a b j).1 h
  obtain ⟨p, p1, p2, p3⟩ := touch_iff.1 h1
  obtain ⟨q, q1, q2, q3⟩ := touch_iff.1 h2
  have := acc_ok ok p1
  have := acc_ok ok q1
  show a ≤ 4 ∧ b ≤ 4 ∧ j < 3 ∧ 1 ≤ a ∧ 1 ≤ b
  omega
theorem DOK.len {L : List O3} {f l s : Nat → Nat} {P : List Nat} {lo : Nat} {D : DT} (ok : ∀ i (h : i < L.length), OkO L[i]) (h : DOK L (PM L f l s) P lo D) : D.length ≤ 75 := by
  have hm : ∀ t ∈ D.map (·.1), t.1 ≤ 4 ∧ t.2.1 ≤ 4 ∧ t.2.2 < 3 := fun t ht => by
    have := vis_bd ok ((h.mem t).1 ht).1
    omega
  have h1 : ((D.map (·.1)).map (fun t : T3 => t.1 * 15 + t.2.1 * 3 + t.2.2)).Nodup := by
    rw [List.nodup_iff_pairwise_ne, List.pairwise_map]
    refine List.pairwise_iff_getElem.2 fun i k hi hk hik e => ?_
    refine (List.pairwise_iff_getElem.1 h.nd i k hi hk hik) ?_
    have a := hm _ (List.getElem_mem hi)
    have b := hm _ (List.getElem_mem hk)
    refine Prod.ext (by omega) (Prod.ext (by omega) (by omega))
  have := len_le 75 _ h1 (fun x hx => by
    obtain ⟨t, ht, rfl⟩ := List.mem_map.1 hx
    have := hm t ht
    omega)
  simpa using this
theorem fD_key (M : Md) (D : DT) : (fD M D).map An2.key = (D.map (·.1)).flatMap M.k1 := by
  induction D with
  | nil => rfl
  | cons d D ih =>
    unfold fD at ih ⊢
    rw [List.flatMap_cons, List.map_append, ih, List.map_cons, List.flatMap_cons]
    congr 1
    unfold Md.k1
    rw [List.map_append]
    congr 1
    · cases M.ls d.1 <;> rfl
    · cases M.nr d.1 <;> rfl
def keyD2 (x : Ybulkaggi.D) : Key := (2, x.1, x.2.1, [x.2.2.1, x.2.2.2])
structure PairsOut (w : World) (L : List O3) (f l a : Nat → Nat) (v : Value) (w' : World) : Prop where
  out : ∃ fl : List An2, ∃ D : DT, w'.ownsRow w.heap.size 32 4 v fl.length (fl.flatMap encN) ∧ (∀ x ∈ fl, ItN w' x ∧ w.heap.size ≤ x.g) ∧ (D.map (·.1)).Nodup ∧ (∀ t, t ∈ D.map (·.1) ↔ (PM L f l a).vis t = true) ∧ (fl.map An2.key).Perm ((D.map (·.1)).flatMap (PM L f l a).k1 ++ (prs (bD (PM L f l a) D) (aD (PM L f l a) D)).map keyD2)
  bel : Below w.heap.size w w'
def PairsPost (w : World) (L : List O3) (f l a : Nat → Nat) (e : Ending) (w' : World) : Prop := ∃ v, e = .returned v ∧ PairsOut w L f l a v w'

theorem ans_cells {w : World} {base g cp : Nat} {Q : List An} (h : Ans w base (.slice (some ⟨g, 0, none⟩) Q.length cp) Q) : ∀ j u, (Q.flatMap encA)[j]? = some u → w.cell? ((⟨g, 0, none⟩ : Addr).add j) = some u := fun j u hj => by
  have e : (⟨g, 0, none⟩ : Addr).add j = ⟨g, j, none⟩ := by unfold Addr.add; split <;> simp_all
  have hl : (Q.flatMap encA).length = Q.length * 4 := h.row.1
  have hjl : j < Q.length * 4 := by rw [← hl]; exact (List.getElem?_eq_some_iff.1 hj).1
  rw [e, h.row.cellAt j hjl]
  exact hj
theorem pairs_fin {N : Nat} {w w1 : World} {X : Bx} {fl : List An2} {bl al : List H} {vf vb va v : Value} {Q : List An} (hps : Ps N w X fl bl al vf vb va) (hA : Ans w1 w.heap.size v Q) (hk : K2 vb.ownBlock va.ownBlock w w1) (h1 : fl.length ≤ 1000) (h2 : Q.length ≤ 100000) (ty : TypeId) :
    ∃ v' w2, (Builtin.append_ #[23, 23] ty #[vf, v]).run Yba.prog w1 = .ok v' w2 ∧ w2.ownsRow N 32 4 v' (fl ++ Q.map toN).length ((fl ++ Q.map toN).flatMap encN) ∧ (∀ x ∈ fl ++ Q.map toN, ItN w2 x ∧ N ≤ x.g) ∧ Below N w w2 ∧ (∀ (k : Nat) (cs : Array Value) (t : TypeId), w.heap[k]? = some (.cells cs t (0, 0)) → t ≠ 32 → t ≠ 74 → w2.heap[k]? = some (.cells cs t (0, 0))) := by
  have hN : N ≤ w.heap.size := Nat.le_of_lt (Nat.lt_of_le_of_lt hps.lf (hlt hps.hf))
  have K : ∀ (k : Nat) (cs : Array Value) (t : TypeId), w.heap[k]? = some (.cells cs t (0, 0)) → t ≠ 74 → w1.heap[k]? = some (.cells cs t (0, 0)) := fun k cs t e ht => by
    refine (hk.block k (hlt e) (fun e2 => ?_) (fun e2 => ?_)).trans e
    · obtain ⟨cs', hc⟩ := own_tag hps.rb e2.symm
      rw [e] at hc
      cases hc
      exact ht rfl
    · obtain ⟨cs', hc⟩ := own_tag hps.ra e2.symm
      rw [e] at hc
      cases hc
      exact ht rfl
  have rf1 : w1.ownsRow N 32 4 vf fl.length (fl.flatMap encN) := own_keep hps.rf (fun b hb => by
    obtain ⟨cs, hc⟩ := own_tag hps.rf hb
    exact (K _ _ _ hc (by decide)).trans hc.symm)
  have B1 : Below N w w1 := ⟨hk.os, hk.tape, hk.output, hk.size, fun i hi => hk.block i (by omega) (fun e => by have := (hps.rb.lt i e.symm).1; omega) (fun e => by have := (hps.ra.lt i e.symm).1; omega)⟩
  obtain ⟨i0, hi0, hz0, hz1, hz2⟩ := info_at info32
  rcases hA.row.2 with ⟨e0, l0⟩ | ⟨g', cp', cur, e0, _⟩
  · have hQ : Q = [] := List.length_eq_zero_iff.1 l0
    obtain ⟨va', vc', hv⟩ := own_shape hps.rf
    have hcap : fl.length ≤ vc' := by
      rcases hps.rf.2 with ⟨q1, q2⟩ | ⟨q3, q4, q5, q1, _, _, q2, _⟩
      · rw [q2]; omega
      · rw [q1] at hv
        injection hv with _ _ e3
        rw [← e3]
        exact q2
    refine ⟨vf, w1, by rw [e0, hv]; exact app_nil w1 ty va' _ vc' hcap, by rw [hQ]; simpa using rf1, fun x hx => ?_, B1, fun k cs t e _ t2 => K k cs t e t2⟩
    rw [hQ] at hx
    simp at hx
    exact ⟨K _ _ _ (hps.it x hx).1 (by decide), (hps.it x hx).2⟩
  · subst e0
    obtain ⟨v', w2, r1, r2, r3, r4, r5⟩ := run_append_own_at (P := Yba.prog) w1 N 23 ty 32 i0 _ 4 56 Yba.underlying23 hi0 hz0 hz1 hz2 rfl (by decide) vf fl.length (fl.flatMap encN) rf1 ⟨g', 0, none⟩ Q.length cp' (Q.flatMap encA) hA.row.1 (ans_cells hA) (fun u hu => by
      obtain ⟨x, _, hx⟩ := List.mem_flatMap.1 hu
      exact encA_one x u hx) (by unfold maxLen; omega) (by omega) (Nat.le_trans hN hk.size)
    have K' : ∀ (k : Nat) (cs : Array Value) (t : TypeId), w1.heap[k]? = some (.cells cs t (0, 0)) → t ≠ 32 → w2.heap[k]? = some (.cells cs t (0, 0)) := fun k cs t e ht => by
      refine (r3.block k (hlt e) (fun e2 => ?_)).trans e
      obtain ⟨cs', hc⟩ := own_tag rf1 e2.symm
      rw [e] at hc
      cases hc
      exact ht rfl
    refine ⟨v', w2, r1, ?_, fun x hx => ?_, B1.trans ⟨r3.os, r3.tape, r3.output, r3.size, fun i hi => r3.block i (by have := hk.size; omega) (fun e => by have := (rf1.lt i e.symm).1; omega)⟩, fun k cs t e t1 t2 => K' k cs t (K k cs t e t2) t1⟩
    · rw [List.flatMap_append, enc_toN, List.length_append, List.length_map]
      exact r2
    · rcases List.mem_append.1 hx with hx | hx
      · exact ⟨K' _ _ _ (K _ _ _ (hps.it x hx).1 (by decide)) (by decide), (hps.it x hx).2⟩
      · obtain ⟨y, hy, rfl⟩ := List.mem_map.1 hx
        exact ⟨K' _ _ _ (it_toN (hA.items y hy).1) (by decide), Nat.le_trans hN (hA.items y hy).2⟩
theorem seg_len {L : List O3} {P : List Nat} {lo hi j : Nat} {R : List Sg} (ok : ∀ i (h : i < L.length), OkO L[i]) (pf : PF L P) (it : IT1 L P lo hi j) (sg : Segs (tQ L (segQ P lo hi)) (hi - lo) (hi - lo) R) : R.length ≤ 4 := by
  have hm : ∀ s ∈ R, 1 ≤ s.1 ∧ s.1 ≤ 4 := fun s hs => by
    obtain ⟨p, h1, h2, _⟩ := touch_iff.1 ((run_mem pf it sg s.1).1 ⟨s, hs, rfl⟩)
    have := acc_ok ok h1
    omega
  have h1 : ((R.map (·.1)).map (fun t : Nat => t - 1)).Nodup := by
    rw [List.nodup_iff_pairwise_ne, List.pairwise_map]
    refine List.pairwise_iff_getElem.2 fun i k hi hk hik e => ?_
    refine (List.pairwise_iff_getElem.1 sg.dis i k hi hk hik) ?_
    simp only [List.getElem_map] at e ⊢
    have a := hm _ (List.getElem_mem (by simpa using hi))
    have b := hm _ (List.getElem_mem (by simpa using hk))
    omega
  have := len_le 4 _ h1 (fun x hx => by
    obtain ⟨t, ht, rfl⟩ := List.mem_map.1 hx
    obtain ⟨s, hs, rfl⟩ := List.mem_map.1 ht
    have := hm s hs
    omega)
  simpa using this
theorem grown_below {w w' : World} (h : Below w.heap.size w w') : w.grownBy w' none := ⟨h.os, h.tape, h.output, h.size, fun k hk _ => h.block k hk⟩

set_option maxHeartbeats 8000000 in
theorem pairs_any (g n c mb N0 : Nat) (L : List O3) (tb f l a : Nat → Nat) (w : World) (hn : n ≤ 256) (hl : L.length = n) (h : OpsAt w g L) (hg : g < w.heap.size) (hSp : Sp N0 w mb L L.length tb f l a) :
    Calls Yba.prog 14 #[.slice (some ⟨g, 0, none⟩) n c, .map (some mb)] w (PairsPost w L f l a) := by
  have H := hide h
  have HL := hide hl
  have HSP := hide hSp
  have OK := hide h.ok
  obtain ⟨es, cl, hmb⟩ := hSp.map.at_
  have lmb : mb < w.heap.size := hlt hmb
  clear h hl hSp hmb
  obtain ⟨M, hM⟩ : ∃ M : Md, M = PM L f l a := ⟨_, rfl⟩
  have HM := hide hM
  have HML := hide (show M.L = L by rw [hM]; rfl)
  have HMF := hide (show M.f = f ∧ M.l = l ∧ M.s = a by rw [hM]; exact ⟨rfl, rfl, rfl⟩)
  clear hM
  go_enter Yba.func14, Yba.ntmps14
  go_upto_region 3 with fail
  obtain ⟨W, hW⟩ : ∃ W, W = (((w.alloc (.cells #[.slice (some ⟨g, 0, none⟩) n c] 39)).alloc (.cells #[.slice none 0 0] 23)).alloc (.cells #[.slice none 0 0] 25)).alloc (.cells #[.slice none 0 0] 25) := ⟨_, rfl⟩
  have kO : W.heap[w.heap.size]? = some (.cells #[.slice (some ⟨g, 0, none⟩) n c] 39 (0, 0)) := by
    rw [hW, Below.heap_alloc _ _ _ (by simp <;> omega), Below.heap_alloc _ _ _ (by simp <;> omega), Below.heap_alloc _ _ _ (by simp)]
    exact heap_alloc_new w _
  have kF : W.heap[w.heap.size + 1]? = some (.cells #[.slice none 0 0] 23 (0, 0)) := by
    rw [hW, Below.heap_alloc _ _ _ (by simp <;> omega), Below.heap_alloc _ _ _ (by simp)]
    have := heap_alloc_new (w.alloc (.cells #[.slice (some ⟨g, 0, none⟩) n c] 39)) (.cells #[.slice none 0 0] 23)
    simpa using this
  have kB : W.heap[w.heap.size + 1 + 1]? = some (.cells #[.slice none 0 0] 25 (0, 0)) := by
    rw [hW, Below.heap_alloc _ _ _ (by simp)]
    have := heap_alloc_new ((w.alloc (.cells #[.slice (some ⟨g, 0, none⟩) n c] 39)).alloc (.cells #[.slice none 0 0] 23)) (.cells #[.slice none 0 0] 25)
    simpa using this
  have kA : W.heap[w.heap.size + 1 + 1 + 1]? = some (.cells #[.slice none 0 0] 25 (0, 0)) := by
    rw [hW]
    have := heap_alloc_new (((w.alloc (.cells #[.slice (some ⟨g, 0, none⟩) n c] 39)).alloc (.cells #[.slice none 0 0] 23)).alloc (.cells #[.slice none 0 0] 25)) (.cells #[.slice none 0 0] 25)
    simpa using this
  have hb : Below w.heap.size w W := by
    rw [hW]
    exact ((((Below.refl _ _).alloc (by omega) _).alloc (by simp) _).alloc (by simp <;> omega) _).alloc (by simp <;> omega) _
  have hsz : w.heap.size + 4 ≤ W.heap.size := by rw [hW]; simp
  have C29 := hide (ByItem_any g n c L W hn HL.out (H.out.keep (hb.block g hg)) (by omega))
  have cO : W.cell? ⟨w.heap.size, 0, none⟩ = some (.slice (some ⟨g, 0, none⟩) n c) := (cell_at kO 0).trans rfl
  have HB := hide hb
  have KO := hide kO
  have KF := hide kF
  have KB := hide kB
  have KA := hide kA
  rw [show (((w.alloc (.cells #[.slice (some ⟨g, 0, none⟩) n c] 39)).alloc (.cells #[.slice none 0 0] 23)).alloc (.cells #[.slice none 0 0] 25)).alloc (.cells #[.slice none 0 0] 25) = W from hW.symm]
  clear hW kO kF kB kA hb
  obtain ⟨N, hN⟩ : ∃ N, N = w.heap.size := ⟨_, rfl⟩
  rw [← hN] at KO KF KB KA HB hsz hg lmb cO ⊢
  have HNN := hide hN
  clear hN
  go_upto_region 5 with (go_at_call 29; refine C29.out.mono ?_; rintro e w1 ⟨v, P, rfl, hby⟩)
  clear C29 cO
  have PF1 := hide (PF.of hby)
  have HROW := hide hby.row
  have hb1 := hby.bel
  have hPl : P.length ≤ 256 := by
    have := hby.perm.length_eq
    have := accs_len L L.length
    have := HL.out
    omega
  obtain ⟨m, hm⟩ : ∃ m, m = P.length := ⟨_, rfl⟩
  obtain ⟨va, vc, hv⟩ := own_shape hby.row
  have HCAP := hide (show ∀ gp cp, v = .slice (some ⟨gp, 0, none⟩) P.length cp → P.length ≤ cp ∧ cp ≤ 9223372036854775807 from fun gp cp e => by
    rcases hby.row.2 with ⟨h1, _⟩ | ⟨g', cap', cur, h1, h2, h3, h4, h5, _⟩
    · rw [h1] at e
      cases e
    · rw [h1] at e
      injection e with e1 e2 e3
      subst e3
      exact ⟨h4, h5⟩)
  rw [← hm] at hv hPl
  subst hv
  have HP := hide hm
  obtain ⟨X, hX⟩ : ∃ X : Bx, X = ⟨N, N + 1, 0, N + 1 + 1, 0, N + 1 + 1 + 1⟩ := ⟨_, rfl⟩
  have ST0 := hide (show OSt N w1 X M [] w1 by
    have e : ∀ {k : Nat} {o : Obj}, W.heap[k]? = some o → w1.heap[k]? = some o := fun hk => (hb1.block _ (hlt hk)).trans hk
    refine ⟨FT.refl _ _, .slice none 0 0, .slice none 0 0, .slice none 0 0, ?_⟩
    rw [hX]
    refine ⟨e KF.out, e KB.out, e KA.out, by simp, World.ownsRow_nil _ _ _ _, World.ownsRow_nil _ _ _ _, World.ownsRow_nil _ _ _ _, fun k h1 _ => by simp [Value.ownBlock] at h1, fun x hx => by simp [fD] at hx, by simp, by simp; omega, by simp; omega⟩)
  have XE := hide hX
  have B1 := hide (show Below N w w1 from HB.out.trans ⟨hb1.os, hb1.tape, hb1.output, hb1.size, fun i hi => hb1.block i (by omega)⟩)
  have KO1 := hide (show w1.heap[N]? = some (.cells #[.slice (some ⟨g, 0, none⟩) n c] 39 (0, 0)) from (hb1.block _ (hlt KO.out)).trans KO.out)
  have HSP1 := hide (show ∀ t, Seen L L.length t → w1.heap[tb t]? = some (.cells #[.int .i64 (t : Int), .int .i64 (f t : Int), .int .i64 (l t : Int), .int .i64 (a t : Int)] 99 (0, 0)) from fun t ht => (B1.out.block _ (by have := hlt (HSP.out.blk t ht); have := HNN.out; omega)).trans (HSP.out.blk t ht))
  have hsz1 : N + 4 ≤ w1.heap.size := by have := hb1.size; omega
  clear hby hb1 HB KO KF KB KA hX hm hsz
  go_wp2
  go_loopw [9] (fun q wx => ∃ (lo : Nat) (D : DT), lo ≤ m ∧ q = .int .i64 (lo : Int) ∧ BDR L P lo ∧ DOK L M P lo D ∧ OSt N w1 X M D wx) (fun q _ => m - (intOf q).toNat)
  case atStart => exact ⟨0, [], Nat.zero_le _, rfl, fun i k hi hk h1 h2 => by omega, DOK.nil _ _ _, ST0.out⟩
  case round =>
    clear ST0
    obtain ⟨lo, D, hlo, rfl, hbd, hdok, hst⟩ := hrel
    by_cases hlm : lo < m
    · have hlm' : (lo : Int) < (m : Int) := by omega
      have hlP : lo < P.length := by rw [← HP.out]; exact hlm
      obtain ⟨gp, cp, hv⟩ := own_some HROW.out (by omega)
      have hva : va = some ⟨gp, 0, none⟩ := by injection hv
      obtain ⟨hc1, hc2⟩ := HCAP.out gp cp hv
      have hvc : vc = cp := by injection hv
      clear hv
      subst hva
      subst hvc
      have hrow' := HROW.out
      rw [HP.out] at hrow'
      have HRW := hide hrow'
      clear hrow'
      obtain ⟨cs3, tg3⟩ := own_tag HRW.out (k := gp) rfl
      have TG3 := hide tg3
      have PC := hide (show ∀ wx, FT N w1 wx → ∀ i (h : i < P.length), wx.cell? ⟨gp, i, none⟩ = some (.int .i64 (P[i] : Nat)) from fun wx hf i h => by
        rw [World.cell?_of_block (a := ⟨gp, i, none⟩) (hf.same TG3.out (by decide)), HRW.out.cellAt i (by omega)]
        simp [zI, h])
      have OP := hide (show ∀ wx, FT N w1 wx → OpsAt wx g L from fun wx hf => H.out.keep ((hf.bel.block g hg).trans (B1.out.block g hg)))
      have XC := hide (show ∀ wx, FT N w1 wx → wx.heap[N]? = some (.cells #[.slice (some ⟨g, 0, none⟩) n c] 39 (0, 0)) from fun wx hf => hf.cells KO1.out (by decide))
      have LT := hide (show ∀ wx, FT N w1 wx → N < wx.heap.size ∧ gp < wx.heap.size ∧ g < wx.heap.size from fun wx hf => by
        have := hf.bel.size
        have := hlt TG3.out
        omega)
      have hap : Acc L P[lo] := PF1.out.acc _ (List.getElem_mem hlP)
      have HJ := hide (acc_ok OK.out hap).2.2
      have HAP := hide hap
      have HBD := hide hbd
      have HDK := hide hdok
      have HST := hide hst
      have hN1 : N ≤ w1.heap.size := by omega
      clear hbd hdok hst hap tg3
      obtain ⟨j, hj⟩ : ∃ j, j = iD L P[lo] := ⟨_, rfl⟩
      have EJ := hide hj
      rw [← hj] at HJ
      have c1 := hide ((cell_at (XC.out wr HST.out.1) 0).trans rfl)
      clear hj
      go_upto_region 6 with fail
      refine p_r6 (XO := N) (gp := gp) (m := m) (cp := vc) (lo := lo) (p := P[lo]) (g := g) (n := n) (c := c) (s := itS j) hlm (by rw [← HL.out]; exact HAP.out.1) c1.out (PC.out wr HST.out.1 lo hlP) (by rw [EJ.out]; exact acc_it (OP.out wr HST.out.1) HAP.out) (LT.out wr HST.out.1).1 (LT.out wr HST.out.1).2.1 (LT.out wr HST.out.1).2.2 ?_
      intro t19 t20 t21 t22 t23 t24 t25 t26 w2 q1 q2
      have ST2 := hide (HST.out.grown hN1 q1)
      have BX2 := hide q2
      clear q1 q2 c1
      generalize wr.heap.size = XI at *
      go_upto_region 8 with fail
      refine p_loop2 (XO := N) (XI := XI) (gp := gp) (m := m) (cp := vc) (lo := lo) (g := g) (n := n) (c := c) (j := j) (L := L) (P := P) HP.out.symm hPl HL.out hlm HJ.out ((cell_at (XC.out w2 ST2.out.1) 0).trans rfl) (PC.out w2 ST2.out.1) (fun i h => ⟨by rw [← HL.out]; exact (PF1.out.acc _ (List.getElem_mem h)).1, (acc_ok OK.out (PF1.out.acc _ (List.getElem_mem h))).2.2, acc_it (OP.out w2 ST2.out.1) (PF1.out.acc _ (List.getElem_mem h))⟩) ((cell_at BX2.out 0).trans rfl) (fun _ => EJ.out.symm) ?_
      intro t28 t29 t30 t31 t32 t33 t34 t35 t36 t37 t38 t39 t40 t41 t42 t43 t44 t45 hi w3 r1 r2 r3 r4 r5 r6
      have IT := hide (IT1.of PF1.out HBD.out r1 (by rw [← HP.out]; exact r2) r3 r4)
      have ST3 := hide (ST2.out.grown hN1 r6)
      have BX3 := hide (show w3.heap[XI]? = some (.cells #[.string (itS j)] 9 (0, 0)) by rw [r5]; exact BX2.out)
      have cI := (cell_at BX3.out 0).trans rfl
      have lXI := hlt BX3.out
      have hs3 : N ≤ w3.heap.size := ST3.out.size.1
      clear r3 r4 r5 r6 ST2 BX2 HST HBD
      go_upto_region 11 with fail
      obtain ⟨W4, hW4⟩ : ∃ W, W = (w3.alloc (.cells #[.string (itS j)] 9)).alloc (.cells #[.slice (some ⟨w3.heap.size, 0, none⟩) 1 1] 30) := ⟨_, rfl⟩
      have g4 : w3.grownBy W4 none := by rw [hW4]; exact grown_none (grown_alloc _ _) (grown_alloc _ _)
      have ST4 := hide (ST3.out.grown hN1 g4)
      have BX4 := hide ((g4.block XI lXI (by simp)).trans BX3.out)
      have GI4 := hide (show W4.heap[w3.heap.size]? = some (.cells #[.string (itS j)] 9 (0, 0)) by
        rw [hW4, Below.heap_alloc _ _ _ (by simp)]
        exact heap_alloc_new w3 _)
      have XN4 := hide (show W4.heap[w3.heap.size + 1]? = some (.cells #[.slice (some ⟨w3.heap.size, 0, none⟩) 1 1] 30 (0, 0)) by
        rw [hW4]
        have := heap_alloc_new (w3.alloc (.cells #[.string (itS j)] 9)) (.cells #[.slice (some ⟨w3.heap.size, 0, none⟩) 1 1] 30)
        simpa using this)
      rw [← hW4]
      clear hW4 g4 cI BX3 ST3
      have hqq : segQ P lo hi = segQ P lo hi := rfl
      have HF4 := ST4.out.1
      have SG : Hid (∀ t, Seen L L.length t → W4.heap[tb t]? = some (.cells #[.int .i64 (t : Int), .int .i64 (f t : Int), .int .i64 (l t : Int), .int .i64 (a t : Int)] 99 (0, 0))) := fun t ht => HF4.cells (HSP1.out t ht) (by decide)
      have hle := IT.out.le
      have C31 := hide (runs_any2 g n c gp lo (vc - lo) (hi - lo) mb L.length L (segQ P lo hi) tb f l a (Seen L L.length) W4.drew hn HL.out ((OP.out W4 HF4).keep rfl) (LT.out W4 HF4).2.2 ((HSP.out.map.keep (B1.out.block mb (by omega))).keep (w' := W4.drew) (HF4.bel.block mb lmb)) (fun i hi' => by
        rw [tQ_at hle hi']
        exact acc_seen (PF1.out.acc _ (List.getElem_mem _))) (by have := (LT.out W4 HF4).1; show mb < W4.heap.size; omega) (segQ_len (by omega) hle) (by omega) (by omega) (by omega) (by omega) (fun i hi' => by
        have h9 : i < hi - lo := by rw [segQ_len (by omega) hle] at hi'; exact hi'
        rw [segQ_at hle h9 hi']
        exact ⟨PC.out W4 HF4 (lo + i) (by omega), by rw [← HL.out]; exact (PF1.out.acc _ (List.getElem_mem _)).1⟩) (LT.out W4 HF4).2.1 (tQ_srt PF1.out IT.out) SG.out)
      clear HF4
      refine p_r11 (mb := mb) (XO := N) (XF := N + 1) (XB := N + 1 + 1) (XA := N + 1 + 1 + 1) (XI := XI) (XN := w3.heap.size + 1) (gp := gp) (m := m) (cp := vc) (lo := lo) (hi := hi) (g := g) (n := n) (c := c) (A := fun v wq => ∃ R : List Sg, wq.ownsRow W4.heap.size 94 2 v R.length ((R.map (mkR tb gp lo (vc - lo) (segQ P lo hi))).flatMap encR) ∧ Segs (tQ L (segQ P lo hi)) (hi - lo) (hi - lo) R ∧ R.Pairwise (fun a b => f a.1 ≤ f b.1) ∧ Below W4.heap.size W4 wq) (B := fun wx => ∃ D', OSt N w1 X M D' wx ∧ DOK L M P hi D') r1 r2 (by have := HP.out; omega) hc2 ((cell_at (XC.out W4 ST4.out.1) 0).trans rfl) (by
        refine C31.out.mono ?_
        rintro e wq ⟨v, R, rfl, z1, z2, z3, z4⟩
        rw [segQ_len (by omega) hle] at z2
        exact ⟨v, rfl, R, z1, z2, z3, ⟨z4.os, z4.tape, z4.output, z4.size, z4.block⟩⟩) (by
        rintro v wq ⟨R, z1, z2, z3, z4⟩
        have STq : OSt N w1 X M D wq := ST4.out.grown hN1 (grown_below z4)
        have kq : ∀ {k : Nat} {o : Obj}, W4.heap[k]? = some o → wq.heap[k]? = some o := fun hk => (z4.block _ (hlt hk)).trans hk
        have hoc : OC wq g n c w3.heap.size j ⟨N, N + 1, w3.heap.size + 1, N + 1 + 1, XI, N + 1 + 1 + 1⟩ M R (mkR tb gp lo (vc - lo) (segQ P lo hi)) := by
          refine ⟨by rw [HML.out]; exact OP.out wq STq.1, (LT.out wq STq.1).2.2, fun s hs => ?_, fun s hs => ⟨_, STq.1.cells TG3.out (by decide), Tk.of (by decide)⟩, XC.out wq STq.1, kq XN4.out, kq GI4.out, kq BX4.out⟩
          rw [HML.out, HMF.out.1, HMF.out.2.1, HMF.out.2.2]
          exact runAt_of PF1.out IT.out z2 (PC.out wq STq.1) (LT.out wq STq.1).2.1 (fun t ht => kq (SG.out t ht)) s hs
        have hD75 := DOK.len OK.out (by rw [← HM.out]; exact HDK.out)
        have hX' : OSt N wq ⟨N, N + 1, w3.heap.size + 1, N + 1 + 1, XI, N + 1 + 1 + 1⟩ M D wq := by
          have := STq.start
          rw [XE.out] at this
          exact this.bx N (w3.heap.size + 1) XI
        refine (overlap_any N W4.heap.size g n c w3.heap.size j R.length ⟨N, N + 1, w3.heap.size + 1, N + 1 + 1, XI, N + 1 + 1 + 1⟩ M R (mkR tb gp lo (vc - lo) (segQ P lo hi)) wq D v hn (by rw [HML.out]; exact HL.out) hs3 hg hoc rfl (seg_len OK.out PF1.out IT.out z2) z2.dis z1 hX' (by omega)).mono ?_
        rintro e wx ⟨he, hq⟩
        refine ⟨he, D ++ (ovK M.f M.l R R.length).2.map (trD j w3.heap.size), STq.via ?_, ?_⟩
        · have := hq.bx N 0 0
          rw [XE.out]
          exact this
        · have h7 := HDK.out
          rw [HM.out] at h7 ⊢
          exact h7.next PF1.out IT.out z2 z3 (fun t ht => fi_le (HSP.out.fi t ht) (HSP.out.la t ht))) ?_
      intro t48 t49 t50 t51 t52 t53 t54 t55 t56 wx hB
      obtain ⟨D', b1, b2⟩ := hB
      have G1 := hide b1
      have G2 := hide b2
      have G3 := hide IT.out.nxt
      clear b1 b2 C31 SG BX4 GI4 XN4 ST4
      go_wp2
      go_roundw
      case rel => exact ⟨hi, by omega, by go_num, G3.out, D', G2.out, G1.out⟩
      case measure => simp [intOf]; omega
    · obtain rfl : lo = m := by omega
      have hlm' : ¬ (lo : Int) < (lo : Int) := by omega
      obtain ⟨hft, vf, vb, vA, hps⟩ := hst
      obtain ⟨fa, fc, hvf⟩ := own_shape hps.rf
      obtain ⟨ba, bc, hvb⟩ := own_shape hps.rb
      obtain ⟨aa, ac, hva⟩ := own_shape hps.ra
      have hD75 : D.length ≤ 75 := DOK.len OK.out (by rw [← HM.out]; exact hdok)
      have l1 := fD_len M D
      have l2 := bD_len M D
      have l3 := aD_len M D
      have e1 := hps.hf
      have e2 := hps.hb
      have e3 := hps.ha
      rw [XE.out] at e1 e2 e3
      simp only at e1 e2 e3
      have C7 := hide (phantom_ps hps (by omega) (by omega))
      have KEEP := hide (show ∀ w1', K2 vb.ownBlock vA.ownBlock wr w1' → ∀ (k : Nat) (cs : Array Value) (t : TypeId), wr.heap[k]? = some (.cells cs t (0, 0)) → t ≠ 74 → w1'.heap[k]? = some (.cells cs t (0, 0)) from fun w1' hk k cs t e ht => by
        refine (hk.block k (hlt e) (fun e2 => ?_) (fun e2 => ?_)).trans e
        · obtain ⟨cs', hc⟩ := own_tag hps.rb e2.symm
          rw [e] at hc
          cases hc
          exact ht rfl
        · obtain ⟨cs', hc⟩ := own_tag hps.ra e2.symm
          rw [e] at hc
          cases hc
          exact ht rfl)
      have HPS := hide hps
      have HDK := hide hdok
      have HFT := hide hft
      have E1 := hide e1
      have E2 := hide e2
      have E3 := hide e3
      rw [hvf] at E1
      rw [hvb] at E2 C7
      rw [hva] at E3 C7
      rw [hvb, hva] at KEEP
      clear hps hdok hft hbd e1 e2 e3
      go_upto_region 13 with fail
      refine p_r13 (XF := N + 1) (XB := N + 1 + 1) (XA := N + 1 + 1 + 1) (va := fa) (m := (fD M D).length) (vc := fc) (ab := ba) (nb := (bD M D).length) (cb := bc) (aa := aa) (na := (aD M D).length) (ca := ac) (A := fun v w1' => ∃ Q : List An, Ans w1' wr.heap.size v Q ∧ (Q.map (·.1)).Perm (prs (bD M D) (aD M D)) ∧ K2 (Value.slice ba (bD M D).length bc).ownBlock (Value.slice aa (aD M D).length ac).ownBlock wr w1') (B := fun v' w2 => PairsOut w L f l a v' w2) ((cell_at E1.out 0).trans rfl) ((cell_at E2.out 0).trans rfl) ((cell_at E3.out 0).trans rfl) (by
        refine C7.out.mono ?_
        rintro e w1' ⟨v, Q, rfl, z1, z2, z3⟩
        obtain ⟨xa, xc, rfl⟩ := own_shape z1.row
        exact ⟨_, _, _, rfl, Q, z1, z2, z3⟩) (by
        rintro v w1' ⟨Q, z1, z2, z3⟩
        exact ⟨(cell_at (KEEP.out w1' z3 _ _ _ E1.out (by decide)) 0).trans rfl, (cell_at (KEEP.out w1' z3 _ _ _ E2.out (by decide)) 0).trans rfl, (cell_at (KEEP.out w1' z3 _ _ _ E3.out (by decide)) 0).trans rfl⟩) (by
        rintro v w1' ⟨Q, z1, z2, z3⟩ ty
        have hQl : Q.length ≤ 100000 := by
          have h5 := z2.length_eq
          have h6 := prs_len (bD M D) (aD M D)
          have h7 : (bD M D).length * (aD M D).length ≤ 75 * 75 := Nat.mul_le_mul (by omega) (by omega)
          rw [List.length_map] at h5
          omega
        rw [← hvb, ← hva] at z3
        obtain ⟨v', w2, y1, y2, y3, y4, y5⟩ := pairs_fin HPS.out z1 z3 (by omega) hQl ty
        rw [hvf] at y1
        refine ⟨v', w2, y1, ⟨⟨fD M D ++ Q.map toN, D, by rw [← HNN.out]; exact y2, fun x hx => by rw [← HNN.out]; exact y3 x hx, HDK.out.nd, fun t => ?_, ?_⟩, ?_⟩, ?_⟩
        · rw [← HM.out, HDK.out.mem]
          constructor
          · exact fun h => h.1
          · intro hvz
            refine ⟨hvz, ?_⟩
            rw [HM.out] at hvz
            obtain ⟨x, y, z⟩ := t
            obtain ⟨_, _, _, h8, _⟩ := (vis_iff L f l a x y z).1 hvz
            obtain ⟨p, h9, _, h10⟩ := touch_iff.1 h8
            obtain ⟨i, hi', rfl⟩ := List.mem_iff_getElem.1 (PF1.out.all p h9)
            exact ⟨i, hi', by rw [HP.out]; exact hi', h10⟩
        · rw [← HM.out, List.map_append, fD_key]
          refine List.Perm.append (List.Perm.refl _) ?_
          have h11 := z2.map keyD2
          rw [List.map_map] at h11
          rw [List.map_map]
          exact h11
        · rw [← HNN.out]
          exact (B1.out.trans HFT.out.bel).trans y4
        · have t1 := y5 _ _ _ HPS.out.hf (by decide) (by decide)
          have t2 := y5 _ _ _ HPS.out.hb (by decide) (by decide)
          have t3 := y5 _ _ _ HPS.out.ha (by decide) (by decide)
          rw [XE.out] at t1 t2 t3
          rw [hvf] at t1
          rw [hvb] at t2
          rw [hva] at t3
          exact ⟨(cell_at t1 0).trans rfl, (cell_at t2 0).trans rfl, (cell_at t3 0).trans rfl⟩) ?_
      intro t58 t59 t60 t61 t62 v' wx hB
      have FIN := hide (show PairsPost w L f l a (.returned v') wx from ⟨v', rfl, hB⟩)
      clear hB
      go_wp2
      go_ret
      exact FIN.out
end Go.Proofs.Ybulkaggi.BM

import Derived.Test.YbulkaggiCp
namespace Go.Proofs.Ybulkaggi.CE
open Go.RowKit Go.WideMaps Go.Maps
set_option linter.unusedVariables false
set_option maxRecDepth 100000



theorem begun_at {N : Nat} {D : List Nat} {T : Nat} {w : World} {S : St} (h : Rel N D T w S) {LL : List Nat} {ba : Option Addr} {L bk : Nat} (hl : S.ql 64 = LL) (hQ : S.Q 64 = .slice ba L bk) (hL : LL.length = L) {k : Nat} (hk : k < LL.length) :
    ∃ g, ba = some ⟨g, 0, none⟩ ∧ w.cell? ⟨g, k, none⟩ = some (Pp (S.tb LL[k])) := by
  have o := h.q.own 64 (.inr rfl)
  rw [hl, hL] at o
  rcases o.2 with ⟨_, h0⟩ | ⟨g, cap, cur, e, _, hg, _⟩
  · omega
  · have ea : ba = some ⟨g, 0, none⟩ := by rw [hQ] at e; cases e; rfl
    subst ea
    rw [hQ] at o
    refine ⟨g, rfl, (o.cellAt _ (by omega)).trans ?_⟩
    simp [hk]
theorem neqm48_nil (w : World) : (binOp .neq 48 (.map none) (.map none)).run Yba.prog w = .ok (.bool false) w := by kernel_rfl
theorem eq_nil_ptr (w : World) (b : Nat) : (binOp .eql 53 (.pointer none) (Pp b)).run Yba.prog w = .ok (.bool false) w := by kernel_rfl

set_option maxHeartbeats 4000000 in
theorem check_any (SC : SortC) {N : Nat} {D0 D : List Nat} {T : Nat} {w : World} {S : St} (h : Rel N D T w S) {c : Nat} (I : Inv c S) (hc : c + 64 ≤ 100000) {x b ab : Nat} (hx : x ∈ S.hs) (hks : S.ks = S.hs) (hq : S.ql 64 = S.hs) (hs : S.hs.Pairwise (· < ·)) (hw : S.wt x = none) (htm : S.tm = some b) (hal : S.al = none ∨ S.al = some x) (commit : Bool)
    (hD : ∀ k ∈ D0, k ∈ D) (hab : ab ∈ D) (nab : ¬ Pd N D0 ab) (A : AB w ab) :
    Calls Yba.prog 21 #[Pp T, .int .i64 (x : Int), .bool commit, .slice (some ⟨ab, 0, none⟩) 64 64] w (CheckPost N D0 D T w S x c ab) := by
  have hx64 : x < 64 := I.lt x hx
  have nod : S.hs.Nodup := nod_of hs
  have hlen64 : S.hs.length ≤ 64 := len_le 64 S.hs nod I.lt
  have c2 : w.cell? ⟨T, 2, none⟩ = some (.map (some b)) := by rw [cell_at h.t.at_, htm]; rfl
  have r1 := (h.m.ftm b htm).look (x := x) (by omega) (hks ▸ hx)
  have oQ := h.q.own x (.inl hx)
  have oW := h.v.own x hx
  have oB := h.q.own 64 (.inr rfl)
  obtain ⟨qa, qk, hQ⟩ := sl_shape oQ
  obtain ⟨wa, wk, hW⟩ := sl_shape oW
  obtain ⟨ba, bk, hB4⟩ := sl_shape oB
  rw [hq] at hB4
  have aX := h.x.at_ x hx
  have lB := hlt aX
  have lT := hlt h.t.at_
  have c5 : w.cell? ⟨S.tb x, 5, none⟩ = some (.slice qa (S.ql x).length qk) := by rw [cell_at aX, hQ]; rfl
  have cW : w.cell? ⟨S.tb x, 2, none⟩ = some (.slice wa (S.wl x).length wk) := by rw [cell_at aX, hW]; rfl
  have c1 : w.cell? ⟨S.tb x, 1, none⟩ = some (.int .u64 ((x : Int) + 1)) := (cell_at aX 1).trans rfl
  have c4 : w.cell? ⟨T, 4, none⟩ = some (.slice ba S.hs.length bk) := by rw [cell_at h.t.at_, hB4]; rfl
  obtain ⟨n, hn⟩ : ∃ n, (S.ql x).length = n := ⟨_, rfl⟩
  obtain ⟨m, hm⟩ : ∃ m, (S.wl x).length = m := ⟨_, rfl⟩
  obtain ⟨L, hL⟩ : ∃ L, S.hs.length = L := ⟨_, rfl⟩
  have hn2 : n ≤ 64 := by rw [← hn]; exact I.qlen hx
  have hm2 : m ≤ 100000 := by rw [← hm]; exact Nat.le_trans (I.cw x hx) (by omega)
  have OQ : Hid (∀ k (hk : k < (S.ql x).length), ∃ g, qa = some ⟨g, 0, none⟩ ∧ g < w.heap.size ∧ w.cell? ⟨g, k, none⟩ = some (Pp (S.tb (S.ql x)[k]))) := fun k hk => by
    rcases oQ.2 with ⟨_, h0⟩ | ⟨g, cap, cur, e, _, hg, _⟩
    · omega
    · have ea : qa = some ⟨g, 0, none⟩ := by rw [hQ] at e; cases e; rfl
      subst ea
      rw [hQ] at oQ
      refine ⟨g, rfl, hlt hg, (oQ.cellAt _ (by omega)).trans ?_⟩
      simp [hk]
  have OW : Hid (w.ownsRow N 124 2 (.slice wa m wk) m ((S.wl x).flatMap undoC)) := by
    rw [hW, hm] at oW
    exact oW
  rw [hn] at c5
  rw [hm] at cW
  rw [hL] at c4 hlen64
  have hg1 : Hid (∃ g1, g1 = w.heap.size) := ⟨_, rfl⟩
  have H := hide h
  have II := hide I
  have HC := hide (And.intro hks (And.intro hq (And.intro hs (And.intro hw (And.intro htm hal)))))
  have HA := hide A
  have HD := hide (And.intro hD (And.intro hab nab))
  have HX := hide hx
  have HN := hide hn
  have HM := hide hm
  have HL := hide hL
  have NOD := hide nod
  clear h I hks hq hs hw htm hal A hD hab nab oQ oW oB hQ hW hB4 aX hx hn hm hL nod
  obtain ⟨B, hB⟩ : ∃ B, S.tb x = B := ⟨_, rfl⟩
  rw [hB] at c5 cW c1 lB r1
  have HB := hide hB
  clear hB
  obtain ⟨i0, hi0, hz0, hz1, hz2⟩ := info_at info3
  obtain ⟨j0, hj0, hy0, hy1, hy2⟩ := info_at info124
  go_enter Yba.func21, Yba.ntmps21
  go_upto_region 3 with (at_make; refine wpList_make_own _ rfl _ _ 58 rfl w.heap.size 3 i0 _ 1 Yba.underlying58 hi0 hz0 hz1 .i64 .i64 _ n rfl rfl rfl (by rw [hz2]; omega) (by unfold maxLen; omega) (Nat.le_refl _) ?_; intro w1 ho1 hg1'; have HW1 := hide (And.intro ho1 hg1'); clear ho1 hg1')
  obtain ⟨ho1, hgr1⟩ := HW1.out
  have hb1 : Below w.heap.size w w1 := (Below.refl _ _).grown hgr1 (Nat.le_refl _) (fun k e => by cases e)
  have lg1 : w.heap.size < w1.heap.size := (ho1.lt _ rfl).2
  generalize hg : w.heap.size = g1 at *
  have d5 := (hb1.cell (p := ⟨B, 5, none⟩) lB).trans c5
  have O1 := hide ho1
  have B1 := hide hb1
  clear ho1 hgr1 hb1 HW1
  go_wp2
  go_loopw [10, 42] (fun v q wx => ∃ k : Nat, k ≤ n ∧ v = .slice (some ⟨g1, 0, none⟩) k n ∧ q = .int .i64 (k : Int) ∧ wx.ownsRow g1 3 1 (.slice (some ⟨g1, 0, none⟩) k n) k (((S.ql x).take k).map zI) ∧ Below g1 w wx) (fun _ q _ => n - (intOf q).toNat)
  case atStart => exact ⟨0, Nat.zero_le _, rfl, rfl, by simpa using O1.out, B1.out⟩
  case round =>
    obtain ⟨k, hk, rfl, rfl, hoA, hbA⟩ := hrel
    by_cases hkn : k < n
    · have hkn' : (k : Int) < (n : Int) := by omega
      obtain ⟨g, rfl, lg, d1⟩ := OQ.out k (by rw [HN.out]; exact hkn)
      obtain ⟨z, hz⟩ : ∃ z, (S.ql x)[k]'(by rw [HN.out]; exact hkn) = z := ⟨_, rfl⟩
      rw [hz] at d1
      have hzh : z ∈ S.hs := (II.out.q1 x HX.out z (by rw [← hz]; exact List.getElem_mem _)).1
      have lz := hlt (H.out.x.at_ z hzh)
      have e0 := (hbA.cell (p := ⟨g, k, none⟩) lg).trans d1
      have e1 := (hbA.cell (p := ⟨S.tb z, 0, none⟩) (by show S.tb z < g1; rw [← hg]; exact lz)).trans ((cell_at (H.out.x.at_ z hzh) 0).trans rfl)
      have htk : (S.ql x).take (k + 1) = (S.ql x).take k ++ [z] := by rw [← hz]; exact (List.take_append_getElem (by rw [HN.out]; exact hkn)).symm
      have HTK := hide htk
      have OA := hide hoA
      have BA := hide hbA
      have lgr : g1 < wr.heap.size := (hoA.lt _ rfl).2
      have hcap : k + 1 ≤ n := hkn
      clear hoA hbA d1 hz htk hzh
      generalize hXS : ((S.ql x).take k).map zI = XS at OA
      have HXS := hide hXS
      clear hXS
      generalize S.tb z = Z at *
      go_wp2_with (at_builtin; refine wpList_append_fits _ rfl _ _ 58 rfl g1 3 i0 1 Yba.underlying58 hi0 hz1 g1 k n XS rfl (OA.out.alloc _) ⟨wr.heap.size, 0, none⟩ 1 1 [.int .i64 (z : Int)] rfl rfl (cell_one_new wr (.int .i64 (z : Int)) 3) (by intro u hu; simp at hu; subst hu; rfl) hcap ?_; intro w2 ho2 hg2; have P := hide (And.intro ho2 hg2); clear ho2 hg2)
      refine ⟨⟨k + 1, hcap, by simp, by simp, ?_, ?_⟩, by simp [intOf]; omega⟩
      · rw [HTK.out, List.map_append, HXS.out]
        exact P.out.1
      · exact (BA.out.alloc (by omega) _).grown P.out.2 (by simp; omega) (fun k e => by cases e; exact Nat.le_refl _)
    · have hkn' : ¬ (k : Int) < (n : Int) := by omega
      obtain rfl : k = n := by omega
      have htk : (S.ql x).take k = S.ql x := by rw [← HN.out, List.take_length]
      rw [htk] at hoA
      have OA := hide hoA
      have BA := hide hbA
      have lgr : g1 < wr.heap.size := (hoA.lt _ rfl).2
      have e2 := (hbA.cell (p := ⟨B, 2, none⟩) lB).trans cW
      clear hoA hbA htk OQ c5 d5 r1 c2 O1 B1
      go_upto_region 9 with (at_make; refine wpList_make_full _ rfl _ _ 62 rfl 0 124 j0 _ 2 Yba.underlying62 hj0 hy0 hy1 .i64 .i64 m m m rfl rfl rfl rfl (by rw [hy2]; omega) (by unfold maxLen; omega) (Nat.zero_le _) ?_; intro wm hwm hgm; have HW2 := hide (And.intro hwm hgm); clear hwm hgm)
      obtain ⟨hwm, hgm⟩ := HW2.out
      have hbm : Below g1 w wm := BA.out.grown hgm (by omega) (fun k e => by cases e)
      obtain ⟨w3, rc, gc, sc, cc, csU, hcsU⟩ := copyU (l := S.wl x) hwm (own_keep (w' := wm) OW.out (fun g hg' => hbm.block g (by rw [← hg]; obtain ⟨cs, hc'⟩ := own_tag OW.out hg'; exact hlt hc'))) HM.out
      have hb3 : Below g1 w w3 := hbm.grown gc (Nat.le_trans (by omega) hgm.size) (fun k e => by cases e; omega)
      have lg2 : wr.heap.size < w3.heap.size := by rw [sc]; exact (hwm.lt _ rfl).2
      have e3 := (hbm.cell (p := ⟨B, 2, none⟩) lB).trans cW
      have e4 := (hb3.cell (p := ⟨B, 1, none⟩) lB).trans c1
      have e5 := (hb3.cell (p := ⟨T, 4, none⟩) lT).trans c4
      have e6 : w3.heap[g1]? = wr.heap[g1]? := (gc.block g1 (Nat.lt_of_lt_of_le lgr hgm.size) (by simp; omega)).trans (hgm.block g1 lgr (by simp))
      generalize hg2 : wr.heap.size = g2 at *
      have hb3' : Below w.heap.size w w3 := by rw [hg]; exact hb3
      have h3 : Rel N (g2 :: g1 :: D) T w3 S := (H.out.belowD hb3' (k := g1) (by omega) (by omega)).guard g2 lg2 (H.out.notNew (by omega))
      obtain ⟨hks, hq, hs, hw, htm, hal⟩ := HC.out
      have C43 := hide (end_any SC h3 II.out hc HX.out hks hq hs hw htm hal commit)
      have H3 := hide h3
      have B3 := hide hb3'
      have CC := hide cc
      have CU := hide hcsU
      have E6 := hide e6
      clear h3 hks hq hs hw htm hal hb3 hb3' cc hcsU e6 hwm hgm HW2 hbm gc OW c1 c4 cW e2
      go_upto_region 13 with (go_at_call 43; refine C43.out.mono ?_; rintro e w4 ⟨R, S', rfl, hE⟩; have E := hide hE; clear hE)
      have hE := E.out
      obtain ⟨hD, hab, nab⟩ := HD.out
      obtain ⟨hks, hq, hs, hw, htm, hal⟩ := HC.out
      have lab : ab < w.heap.size := HA.out.lt
      have l34 : w3.heap.size ≤ w4.heap.size := hE.fr.size
      have rnew := hE.rnew
      have sub4 : ∀ k ∈ D, k ∈ g2 :: g1 :: D := fun k hk => by simp [hk]
      have r4 : Rel N D T w4 S' := hE.rel.less sub4
      have ab4 : AB w4 ab := (HA.out.keep (B3.out.block ab lab)).keep (hE.fr.block ab (.inr (sub4 ab hab)))
      have aB : w4.heap[B]? = some (.cells #[.int .i64 x, .int .u64 ((x : Int) + 1), S.W x, .map (S.M x), po ((S.wt x).map (·.1)), S.Q x] 66 (0, 0)) := by
        have e := hE.tbx
        rw [HB.out] at e
        have e' := H.out.x.at_ x HX.out
        rw [HB.out] at e'
        exact e.trans ((B3.out.block B (by rw [hg]; exact lB)).trans e')
      have nE : ¬ Pd N (R :: g1 :: g2 :: B :: D0) ab := fun e => by
        rcases e with e | e
        · exact nab (.inl e)
        · simp only [List.mem_cons] at e
          rcases e with e | e | e | e | e
          · omega
          · omega
          · omega
          · exact ab4.tag aB (by decide) e
          · exact nab (.inr e)
      have cG : ∀ j (hj : j < (S.ql x).length), w4.cell? ⟨g1, j, none⟩ = some (.int .i64 ((S.ql x)[j] : Nat)) := fun j hj => by
        have e := (hE.fr.block g1 (.inr (by simp))).trans E6.out
        rw [World.cell?_of_block e, OA.out.cellAt j (by rw [← HN.out]; omega)]
        simp [zI, hj]
      have cU : ∀ j (hj : j < (S.wl x).length), w4.cell? ⟨g2, j * 2, none⟩ = some (Pp ((S.wl x)[j]).1) ∧ w4.cell? ⟨g2, j * 2 + 1, none⟩ = some (.int .u64 ((S.wl x)[j]).2) := fun j hj => by
        have e := hE.fr.block g2 (.inr (by simp))
        exact ⟨(World.cell?_of_block (a := ⟨g2, j * 2, none⟩) e).trans (CC.out j hj).1, (World.cell?_of_block (a := ⟨g2, j * 2 + 1, none⟩) e).trans (CC.out j hj).2⟩
      have etm : S'.tm = some b := hE.tm.trans htm
      have zf : ∀ z ∈ S.ql x, z ∈ S'.hs ∧ z < 64 := fun z hz => by
        obtain ⟨h1, h2⟩ := II.out.q1 x HX.out z hz
        rw [hE.hs]
        exact ⟨(List.mem_erase_of_ne (fun e : z = x => h2 (by rw [e]; exact hw))).2 h1, II.out.lt z h1⟩
      have frw : Fr N D0 w w4 := (Fr.below (fun k hk => H.out.low k (by rcases hk with e | e; exact .inl e; exact .inr (hD k e))) B3.out).trans (hE.fr.mono (fun k hk => sub4 k (hD k hk)))
      rw [HN.out]
      have R4 := hide r4
      have A4 := hide ab4
      have AB4 := hide aB
      have NE := hide nE
      have CG := hide cG
      have CUU := hide cU
      have TM4 := hide etm
      have ZF := hide zf
      have FRW := hide frw
      clear hE hD hab nab hks hq hs hw htm hal r4 ab4 aB nE cG cU etm zf frw rnew l34 sub4 H3 B3 CC CU E6 C43 e3 e4 e5 OA BA HA rc sc
      go_wp2
      go_loopw [17] (fun q wx => ∃ j : Nat, j ≤ k ∧ q = .int .i64 (j : Int) ∧ Rel N D T wx S' ∧ Fr N (R :: g1 :: g2 :: B :: D0) w4 wx ∧ AB wx ab) (fun q _ => k - (intOf q).toNat)
      case atStart => exact ⟨0, Nat.zero_le _, rfl, R4.out, Fr.refl _ _ _, A4.out⟩
      case round =>
        obtain ⟨j, hj, rfl, hrl, hfr, hA⟩ := hrel
        by_cases hjk : j < k
        · have hjk' : (j : Int) < (k : Int) := by omega
          obtain ⟨st, r1, r2, hst, r3⟩ := E.out.res j (by rw [HN.out]; exact hjk)
          have g0 := CG.out j (by rw [HN.out]; exact hjk)
          obtain ⟨z, hz⟩ : ∃ z, (S.ql x)[j]'(by rw [HN.out]; exact hjk) = z := ⟨_, rfl⟩
          rw [hz] at r1 r3 g0
          obtain ⟨hz1, hz2'⟩ := ZF.out z (by rw [← hz]; exact List.getElem_mem _)
          have q1 := (World.cell?_of_block (a := ⟨R, j * 2, none⟩) (hfr.block R (.inr (by simp)))).trans r1
          have q2 := (World.cell?_of_block (a := ⟨R, j * 2 + 1, none⟩) (hfr.block R (.inr (by simp)))).trans r2
          have q3 := (World.cell?_of_block (a := ⟨g1, j, none⟩) (hfr.block g1 (.inr (by simp)))).trans g0
          have q4 : wr.cell? ⟨T, 2, none⟩ = some (.map (some b)) := by rw [cell_at hrl.t.at_, TM4.out]; rfl
          have q5 : wr.cell? ⟨S'.tb z, 4, none⟩ = some (po ((S'.wt z).map (·.1))) := (cell_at (hrl.x.at_ z hz1) 4).trans rfl
          have zk : z ∈ S'.ks := by rw [E.out.ks, ← E.out.hs]; exact hz1
          have rlk : ∀ q, (Instr.lookup 49 (.map (some b)) (.int .i64 (z : Int)) false).run Yba.prog (wr.drewN q) = .ok (Pp (S'.tb z)) (wr.drewN q) := fun q => TM.look (w := wr.drewN q) ((hrl.m.ftm b TM4.out).keep rfl) (by omega) zk
          obtain ⟨vz, q6⟩ := hA.cell hz2'
          have q7 := hA.free z
          have RL := hide hrl
          have FR := hide hfr
          have AA := hide hA
          have Z64 := hide hz2'
          have R3 := hide r3
          have HST := hide hst
          clear hrl hfr hA r1 r2 g0 hz zk hz1 r3
          generalize S'.tb z = Z at *
          go_upto_region 18 with fail
          go_quiet (fail)
          go_upto_region 20 with fail
          go_quiet (fail)
          go_upto_region 25 with (go_at_call 20; refine (cok_any st HST.out _).mono ?_; rintro e w' ⟨rfl, hw'⟩; obtain rfl := hw'.symm)
          have HAB := hide HD.out.2.1
          have fin : Hid (∀ wx : World, wx.heap = wr.heap → wx.os = wr.os → wx.tape = wr.tape → wx.output = wr.output → Rel N D T wx S' ∧ Fr N (R :: g1 :: g2 :: B :: D0) w4 wx ∧ AB wx ab) := fun wx e0 e1 e2 e3 => ⟨RL.out.heapEq e0, FR.out.heapEq e0 e1 e2 e3, AA.out.keep (by rw [e0])⟩
          have fin4 : Hid (∀ wx : World, wx.heap = wr.heap → wx.os = wr.os → wx.tape = wr.tape → wx.output = wr.output → Rel N D T (wx.setCell ⟨ab, z, none⟩ (.bool true)) S' ∧ Fr N (R :: g1 :: g2 :: B :: D0) w4 (wx.setCell ⟨ab, z, none⟩ (.bool true)) ∧ AB (wx.setCell ⟨ab, z, none⟩ (.bool true)) ab) := fun wx e0 e1 e2 e3 => ⟨(RL.out.heapEq e0).store HAB.out _ _, (FR.out.heapEq e0 e1 e2 e3).trans (Fr.setCell NE.out _), (AA.out.keep (w' := wx) (by rw [e0])).set Z64.out true⟩
          obtain ⟨s1, s4⟩ := HST.out
          have hcase : st = 1 ∨ st = 2 ∨ st = 3 ∨ st = 4 := by omega
          rcases hcase with rfl | rfl | rfl | rfl
          · have e5 : po ((S'.wt z).map (·.1)) = .pointer none := by
              cases e : S'.wt z with
              | none => rfl
              | some p => exact absurd (R3.out.2 (by rw [e]; simp)) (by omega)
            rw [e5] at q5
            clear e5
            go_quiet (fail)
            go_wp2
            exact ⟨⟨j + 1, by omega, by simp, fin.out _ rfl rfl rfl rfl⟩, by simp [intOf]; omega⟩
          · have e5 : po ((S'.wt z).map (·.1)) = .pointer none := by
              cases e : S'.wt z with
              | none => rfl
              | some p => exact absurd (R3.out.2 (by rw [e]; simp)) (by omega)
            rw [e5] at q5
            clear e5
            go_quiet (fail)
            go_wp2
            exact ⟨⟨j + 1, by omega, by simp, fin.out _ rfl rfl rfl rfl⟩, by simp [intOf]; omega⟩
          · have e5 : ∃ rq, po ((S'.wt z).map (·.1)) = Pp rq := by
              cases e : S'.wt z with
              | none => exact absurd e (R3.out.1 rfl)
              | some p => exact ⟨p.1, rfl⟩
            obtain ⟨rq, e5⟩ := e5
            rw [e5] at q5
            clear e5
            go_quiet (fail)
            go_wp2
            exact ⟨⟨j + 1, by omega, by simp, fin.out _ rfl rfl rfl rfl⟩, by simp [intOf]; omega⟩
          · have e5 : po ((S'.wt z).map (·.1)) = .pointer none := by
              cases e : S'.wt z with
              | none => rfl
              | some p => exact absurd (R3.out.2 (by rw [e]; simp)) (by omega)
            rw [e5] at q5
            clear e5
            go_quiet (fail)
            go_wp2
            exact ⟨⟨j + 1, by omega, by simp, fin4.out _ rfl rfl rfl rfl⟩, by simp [intOf]; omega⟩
        · have hjk' : ¬ (j : Int) < (k : Int) := by omega
          obtain rfl : j = k := by omega
          have q4 : wr.cell? ⟨T, 2, none⟩ = some (.map (some b)) := by rw [cell_at hrl.t.at_, TM4.out]; rfl
          obtain ⟨vo, rlo⟩ := (hrl.m.ftm b TM4.out).lookOk (x := x) (by omega)
          have xks : x ∉ S'.ks := by rw [E.out.ks]; exact NOD.out.not_mem_erase
          rw [decide_eq_false xks] at rlo
          have oB := hrl.q.own 64 (.inr rfl)
          obtain ⟨ba', bk', hB4⟩ := sl_shape oB
          rw [E.out.l64] at hB4
          obtain ⟨L', hL'⟩ : ∃ L', (S.hs.erase x).length = L' := ⟨_, rfl⟩
          rw [hL'] at hB4
          have c4 : wr.cell? ⟨T, 4, none⟩ = some (.slice ba' L' bk') := by rw [cell_at hrl.t.at_, hB4]; rfl
          have hLL : L = L' + 1 := by
            have e1 := List.length_erase_of_mem HX.out
            have e2 := List.length_pos_of_mem HX.out
            rw [hL', HL.out] at e1
            rw [HL.out] at e2
            omega
          have hL64 : L' ≤ 64 := by omega
          subst hLL
          have RL := hide hrl
          have FR := hide hfr
          have AA := hide hA
          have HB4 := hide hB4
          have HL' := hide hL'
          clear hrl hfr hA oB hB4 hL' CG ZF xks R4 A4
          go_wp2
          go_loopw [21] (fun q wx => ∃ k : Nat, k ≤ L' ∧ q = .int .i64 (k : Int) ∧ Rel N D T wx S' ∧ Fr N (R :: g1 :: g2 :: B :: D0) w4 wx ∧ AB wx ab) (fun q _ => L' - (intOf q).toNat)
          case atStart => exact ⟨0, Nat.zero_le _, rfl, RL.out, FR.out, AA.out⟩
          case round =>
            clear c4 q4 rlo RL FR AA
            obtain ⟨k3, hk3, rfl, hrl, hfr, hA⟩ := hrel
            have c4 : wr.cell? ⟨T, 4, none⟩ = some (.slice ba' L' bk') := by rw [cell_at hrl.t.at_, HB4.out]; rfl
            by_cases hkl : k3 < L'
            · have hkl' : (k3 : Int) < (L' : Int) := by omega
              have hk4 : k3 < (S.hs.erase x).length := by rw [HL'.out]; exact hkl
              obtain ⟨g, rfl, d1⟩ := begun_at hrl E.out.l64 HB4.out HL'.out hk4
              obtain ⟨y, hy⟩ : ∃ y, (S.hs.erase x)[k3] = y := ⟨_, rfl⟩
              rw [hy] at d1
              have hyL : y ∈ S.hs.erase x := by rw [← hy]; exact List.getElem_mem _
              have hyS : y ∈ S'.hs := by rw [E.out.hs]; exact hyL
              have d2 : wr.cell? ⟨S'.tb y, 1, none⟩ = some (.int .u64 ((y : Int) + 1)) := (cell_at (hrl.x.at_ y hyS) 1).trans rfl
              have hne : ¬ y = x := fun e => NOD.out.not_mem_erase (e ▸ hyL)
              have hne2 : ¬ (y : Int) = (x : Int) := by omega
              have hne3 : ¬ (y : Int) + 1 = (x : Int) + 1 := by omega
              have fin : Hid (∀ wx : World, wx.heap = wr.heap → wx.os = wr.os → wx.tape = wr.tape → wx.output = wr.output → Rel N D T wx S' ∧ Fr N (R :: g1 :: g2 :: B :: D0) w4 wx ∧ AB wx ab) := fun wx e0 e1 e2 e3 => ⟨hrl.heapEq e0, hfr.heapEq e0 e1 e2 e3, hA.keep (by rw [e0])⟩
              cases k3 with
              | zero =>
                clear hrl hfr hA hyL hyS hy hk4
                generalize S'.tb y = Y at *
                go_upto_region 39 with fail
                go_quiet (fail)
                go_wp2
                exact ⟨⟨1, by omega, by simp, fin.out _ rfl rfl rfl rfl⟩, by simp [intOf]; omega⟩
              | succ p =>
                have hkp : p < (S.hs.erase x).length := by omega
                obtain ⟨g', eg', d3⟩ := begun_at hrl E.out.l64 HB4.out HL'.out hkp
                cases eg'
                obtain ⟨v, hv⟩ : ∃ v, (S.hs.erase x)[p] = v := ⟨_, rfl⟩
                rw [hv] at d3
                have hvL : v ∈ S.hs.erase x := by rw [← hv]; exact List.getElem_mem _
                have hvS : v ∈ S'.hs := by rw [E.out.hs]; exact hvL
                have d4 : wr.cell? ⟨S'.tb v, 1, none⟩ = some (.int .u64 ((v : Int) + 1)) := (cell_at (hrl.x.at_ v hvS) 1).trans rfl
                have hlt' : v < y := by
                  have pw := HC.out.2.2.1.sublist (List.erase_sublist (a := x) (l := S.hs))
                  rw [← hv, ← hy]
                  exact List.pairwise_iff_getElem.1 pw p (p + 1) hkp hk4 (by omega)
                have hge1 : ¬ y ≤ v := by omega
                have hge2 : ¬ (y : Int) ≤ (v : Int) := by omega
                have hge3 : ¬ (y : Int) + 1 ≤ (v : Int) + 1 := by omega
                have hpl : (p : Int) < (L' : Int) := by omega
                clear hrl hfr hA hyL hyS hy hk4 hkp hv hvL hvS hlt'
                generalize S'.tb y = Y at *
                generalize S'.tb v = V at *
                go_upto_region 39 with fail
                go_quiet (fail)
                go_wp2
                exact ⟨⟨p + 1 + 1, by omega, by simp, fin.out _ rfl rfl rfl rfl⟩, by simp [intOf]; omega⟩
            · have hkl' : ¬ (k3 : Int) < (L' : Int) := by omega
              obtain rfl : k3 = L' := by omega
              have RL := hide hrl
              have AA := hide hA
              have FR : Hid (Fr N (g2 :: B :: D0) w4 wr) := hfr.mono (fun k hk => by simp at hk ⊢; rcases hk with e | e | e <;> simp [e])
              have LW : Hid (∀ k, Pd N (g2 :: B :: D0) k → k < w4.heap.size) := fun k hk => by
                have l34 : w3.heap.size ≤ w4.heap.size := E.out.fr.size
                rcases hk with e | e
                · exact E.out.rel.low k (.inl e)
                · simp only [List.mem_cons] at e
                  rcases e with e | e | e
                  · omega
                  · rw [e]; exact hlt AB4.out
                  · exact E.out.rel.low k (.inr (by simp [HD.out.1 k e]))
              clear hrl hfr hA
              go_wp2
              go_loopw [209] (fun q wx => ∃ k : Nat, k ≤ m ∧ q = .int .i64 (k : Int) ∧ Rel N D T wx S' ∧ Fr N (g2 :: B :: D0) w4 wx ∧ AB wx ab) (fun q _ => m - (intOf q).toNat)
              case atStart => exact ⟨0, Nat.zero_le _, rfl, RL.out, FR.out, AA.out⟩
              case round =>
                clear c4 RL FR AA
                obtain ⟨k4, hk4, rfl, hrl, hfr, hA⟩ := hrel
                by_cases hkm : k4 < m
                · have hkm' : (k4 : Int) < (m : Int) := by omega
                  have hkw : k4 < (S.wl x).length := by rw [HM.out]; exact hkm
                  obtain ⟨d1', d2'⟩ := CUU.out k4 hkw
                  obtain ⟨p, hp⟩ : ∃ p, (S.wl x)[k4] = p := ⟨_, rfl⟩
                  rw [hp] at d1' d2'
                  have hpm : p ∈ S.wl x := by rw [← hp]; exact List.getElem_mem _
                  obtain ⟨it1, it2⟩ := E.out.items p hpm
                  have hi : p.1 ∈ S'.its := by rw [E.out.its]; exact (II.out.w2 x HX.out p hpm).1
                  obtain ⟨i, u⟩ := p
                  have eg := hfr.block g2 (.inr (by simp))
                  have d1 := (World.cell?_of_block (a := ⟨g2, k4 * 2, none⟩) eg).trans d1'
                  have d2 := (World.cell?_of_block (a := ⟨g2, k4 * 2 + 1, none⟩) eg).trans d2'
                  have ai := hrl.i.at_ i hi
                  have li := hlt ai
                  have i1 : wr.cell? ⟨i, 1, none⟩ = some (.int .u64 (S'.wn i)) := (cell_at ai 1).trans rfl
                  have i2 : wr.cell? ⟨i, 2, none⟩ = some (po ((S'.wr i).map S'.tb)) := (cell_at ai 2).trans rfl
                  have fin : Hid (∀ wx : World, wx.heap = (wr.alloc (.cells #[Pp i, .int .u64 u] 124)).heap → wx.os = wr.os → wx.tape = wr.tape → wx.output = wr.output → Rel N D T wx S' ∧ Fr N (g2 :: B :: D0) w4 wx ∧ AB wx ab) := fun wx e0 e1 e2 e3 => ⟨(hrl.alloc _).heapEq e0, (hfr.trans (Fr.alloc (fun k hk => Nat.lt_of_lt_of_le (LW.out k hk) hfr.size) _)).heapEq e0 e1 e2 e3, (hA.keep (Below.heap_alloc wr _ ab hA.lt)).keep (by rw [e0])⟩
                  cases ew : S'.wr i with
                  | none =>
                    have ewn := it2 ew
                    rw [ew] at i2
                    change wr.cell? ⟨i, 2, none⟩ = some (.pointer none) at i2
                    have E1 := fun W => eq_nil_ptr W B
                    cases commit with
                    | true =>
                      rw [if_pos rfl] at ewn
                      rw [ewn] at i1
                      clear hrl hfr hA ai it1 it2 hpm hp hkw hi eg d1' d2' ewn ew
                      go_wp2
                      exact ⟨⟨k4 + 1, by omega, by simp, fin.out _ rfl rfl rfl rfl⟩, by simp [intOf]; omega⟩
                    | false =>
                      rw [if_neg (by simp)] at ewn
                      rw [ewn] at i1
                      clear hrl hfr hA ai it1 it2 hpm hp hkw hi eg d1' d2' ewn ew
                      go_wp2
                      exact ⟨⟨k4 + 1, by omega, by simp, fin.out _ rfl rfl rfl rfl⟩, by simp [intOf]; omega⟩
                  | some y =>
                    have hyS := (E.out.inv.w1 i hi y ew).1
                    have ay := hrl.x.at_ y hyS
                    have aB := (hfr.block B (.inr (by simp))).trans AB4.out
                    have hne : S'.tb y ≠ B := fun e => by
                      have e' : S'.tb y = S'.tb x := by rw [e, E.out.tb, HB.out]
                      have hyx : y ≠ x := fun e => it1 (by rw [← e]; exact ew)
                      have e2 := H.out.x.inj y (List.mem_of_mem_erase (E.out.hs ▸ hyS)) x HX.out (by rw [← E.out.tb]; exact e')
                      exact hyx e2
                    have E1 := eq_ptr_diff (wr.alloc (.cells #[Pp i, .int .u64 u] 124)) (S'.tb y) B hne ((Below.heap_alloc wr _ _ (hlt ay)).trans ay) ((Below.heap_alloc wr _ _ (hlt aB)).trans aB)
                    rw [ew] at i2
                    change wr.cell? ⟨i, 2, none⟩ = some (Pp (S'.tb y)) at i2
                    clear hrl hfr hA ai it1 it2 hpm hp hkw hi eg d1' d2' ew ay aB hyS hne
                    generalize S'.tb y = Y at *
                    go_wp2
                    exact ⟨⟨k4 + 1, by omega, by simp, fin.out _ rfl rfl rfl rfl⟩, by simp [intOf]; omega⟩
                · have hkm' : ¬ (k4 : Int) < (m : Int) := by omega
                  have q4 : wr.cell? ⟨T, 2, none⟩ = some (.map (some b)) := by rw [cell_at hrl.t.at_, TM4.out]; rfl
                  have q1 : wr.cell? ⟨T, 1, none⟩ = some (.map S'.im) := (cell_at hrl.t.at_ 1).trans rfl
                  have rl : ∀ ty, (Builtin.len_ #[49] ty #[.map (some b)]).run Yba.prog wr = .ok (.int .i64 (k3 : Int)) wr := fun ty => by
                    have e := lenTm hrl ty
                    rw [TM4.out, E.out.ks, HL'.out] at e
                    exact e
                  have FIN : Hid (CheckPost N D0 D T w S x c ab (.returned (.bool true)) wr) := ⟨rfl, S', hrl, FRW.out.trans (hfr.mono (fun k hk => by simp [hk])), hA, E.out.inv, E.out.hs, E.out.ks, E.out.l64, E.out.al, E.out.last, E.out.tm⟩
                  have E0 := neqm48_nil
                  have HIM : Hid (k3 = 0 → S'.im = none) := fun e => E.out.imn (List.length_eq_zero_iff.1 (HL'.out.trans e))
                  clear hrl hfr hA
                  by_cases e0 : k3 = 0
                  · have him := HIM.out e0
                    rw [him] at q1
                    subst e0
                    clear him
                    go_wp2
                    go_ret
                    exact FIN.out
                  · have e0' : ¬ (k3 : Int) = 0 := by omega
                    go_wp2
                    go_ret
                    exact FIN.out

end Go.Proofs.Ybulkaggi.CE

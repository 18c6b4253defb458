import Derived.Test.YbulkaggiCi
namespace Go.Proofs.Ybulkaggi.CE
open Go.RowKit Go.WideMaps Go.Maps
set_option linter.unusedVariables false
set_option maxRecDepth 100000

set_option maxHeartbeats 4000000 in
theorem end_any (SC : SortC) {N : Nat} {D : List Nat} {T : Nat} {w : World} {S : St} (h : Rel N D T w S) {c : Nat} (I : Inv c S) (hc : c + 64 ≤ 100000) {x b : Nat} (hx : x ∈ S.hs) (hks : S.ks = S.hs) (hq : S.ql 64 = S.hs) (hs : S.hs.Pairwise (· < ·)) (hw : S.wt x = none) (htm : S.tm = some b) (hal : S.al = none ∨ S.al = some x) (commit : Bool) :
    Calls Yba.prog 43 #[Pp T, .int .i64 (x : Int), .bool commit] w (EndPost N D T w S x commit c) := by
  have hx64 : x < 64 := I.lt x hx
  have nod : S.hs.Nodup := nod_of hs
  have h1 : Rel N (w.heap.size :: D) T (w.alloc (.cells #[Pp (S.tb x)] 53)) S := h.newD _
  obtain ⟨w2, rdel, t2, g2⟩ := (h1.m.ftm b htm).drop (x := x) (by omega) (hks ▸ hx) (hks ▸ nod) 0
  obtain ⟨h2, f2⟩ := h1.mapT htm g2 t2
  obtain ⟨r, hr⟩ := eq_alone (tb := S.tb) hal
  have C40 := hide (running_any h hx (hks ▸ hx) hw hx64 ⟨#[69, 110, 100]⟩)
  have hT1 : (w.alloc (.cells #[Pp (S.tb x)] 53)).cell? ⟨T, 2, none⟩ = some (.map (some b)) := by rw [cell_at h1.t.at_, htm]; rfl
  have c7 : w2.cell? ⟨T, 7, none⟩ = some (po (S.al.map S.tb)) := by rw [cell_at h2.t.at_]; rfl
  have f7 := free_at h2.t.at_ 7
  have cb : w2.cell? ⟨w.heap.size, 0, none⟩ = some (Pp (S.tb x)) := (World.cell?_of_block (f2.block w.heap.size (.inr (by simp)))).trans ((cell_at (heap_alloc_new w _) 0).trans rfl)
  have H2 := hide h2
  have F2 := hide f2
  have reql := fun W => (hr W).1
  have HR := hide (hr w).2
  have H1 := hide h1
  have H := hide h
  have II := hide I
  clear h h1 h2 f2 hr t2 g2 I
  generalize po (S.al.map S.tb) = va at *
  generalize hB : S.tb x = B at *
  have HN0 : Hid (S.al = none → ∀ nq, Rel N (w.heap.size :: D) T (w2.drewN nq) { S with ks := S.ks.erase x, al := none } ∧ Fr N (w.heap.size :: D) w2 (w2.drewN nq)) := fun e nq => by
    have k := H2.out.eta_al e
    exact ⟨k.heapEq rfl, (Fr.refl _ _ _).heapEq rfl rfl rfl rfl⟩
  have HN1 : Hid (∀ nq, Rel N (w.heap.size :: D) T ((w2.drewN nq).setCell ⟨T, 7, none⟩ (.pointer none)) { S with ks := S.ks.erase x, al := none } ∧ Fr N (w.heap.size :: D) w2 ((w2.drewN nq).setCell ⟨T, 7, none⟩ (.pointer none))) := fun nq => by
    obtain ⟨k1, k2⟩ := (H2.out.heapEq (w' := w2.drewN nq) rfl).setAl none
    exact ⟨k1, (Fr.heapEq (w0 := w2) (w := w2) (w' := w2.drewN nq) (Fr.refl _ _ _) rfl rfl rfl rfl).trans k2⟩
  go_enter Yba.func43, Yba.ntmps43
  go_upto_region 3 with (go_at_call 40; refine C40.out.mono ?_; rintro e w' ⟨rfl, hw'⟩; obtain rfl := hw'.symm)
  go_quiet (fail)
  go_upto_if 28 with fail
  go_cut [] from 29 to 31 (fun wx => Rel N (w.heap.size :: D) T wx { S with ks := S.ks.erase x, al := none } ∧ Fr N (w.heap.size :: D) w2 wx)
  case first =>
    cases r with
    | false =>
      have e := HR.out.2 rfl
      go_wp2
      go_meet
      exact HN0.out e _
    | true =>
      go_wp2
      go_meet
      exact HN1.out _
  case rest =>
    obtain ⟨hX, fX⟩ := hcut
    obtain ⟨D2, wa, qa, wk, qk, eD, L⟩ := leaves hX hx nod (by omega) hks (by rw [hB]; exact (World.cell?_of_block (fX.block w.heap.size (.inr (by simp)))).trans cb)
    have FX : Hid (Fr N D w wc) := ((Fr.alloc H.out.low _).trans (F2.out.mono (fun k hk => List.mem_cons_of_mem _ hk))).trans (fX.mono (fun k hk => List.mem_cons_of_mem _ hk))
    have EX : Hid (wc.heap[S.tb x]? = w.heap[S.tb x]?) := L.cB.trans (H.out.x.at_ x hx).symm
    clear c7 f7 rdel reql H2 C40 hT1 H1 hX fX F2 cb HN0 HN1 HR
    have LL := hide L
    have q2 : wc.cell? ⟨B, 2, none⟩ = some (.slice wa (S.wl x).length wk) := by rw [← hB, cell_at L.cB, L.hW]; rfl
    have q7 := L.c7
    rw [hB] at q7
    clear L
    obtain ⟨m, hm⟩ : ∃ m, (S.wl x).length = m := ⟨_, rfl⟩
    have hm2 : m ≤ 100000 := by rw [← hm]; exact Nat.le_trans (II.out.cw x hx) (by omega)
    rw [hm] at q2
    generalize hb7 : w.heap.size = b7 at *
    go_wp2
    go_loopw [37] (fun q wr => ∃ k : Nat, k ≤ m ∧ q = .int .i64 (k : Int) ∧ Rel N D2 T wr (gives commit (left S x) ((S.wl x).take k)) ∧ Fr N D2 wc wr) (fun q _ => m - (intOf q).toNat)
    case atStart => exact ⟨0, Nat.zero_le _, rfl, by simpa [gives] using LL.out.rel, Fr.refl _ _ _⟩
    case round =>
      obtain ⟨k, hk, rfl, hA, fA⟩ := hrel
      by_cases hkm : k < m
      · have hkm' : (k : Int) < (m : Int) := by omega
        obtain ⟨g, rfl, dg, d1, d2⟩ := LL.out.cW k (by omega)
        obtain ⟨p, hp⟩ : ∃ p, (S.wl x)[k]'(by omega) = p := ⟨_, rfl⟩
        have hpm : p ∈ S.wl x := by rw [← hp]; exact List.getElem_mem _
        have htk : (S.wl x).take (k + 1) = (S.wl x).take k ++ [p] := by rw [← hp]; exact (List.take_append_getElem (by omega)).symm
        rw [hp] at d1 d2
        obtain ⟨i, u⟩ := p
        have hi : i ∈ (gives commit (left S x) ((S.wl x).take k)).its := by rw [gives_same]; exact (II.out.w2 x hx _ hpm).1
        have eg := fA.block g (.inr dg)
        replace d1 := (World.cell?_of_block (a := ⟨g, k * 2, none⟩) eg).trans d1
        replace d2 := (World.cell?_of_block (a := ⟨g, k * 2 + 1, none⟩) eg).trans d2
        have ai := hA.i.at_ i hi
        have li := hlt ai
        have i1 := cell_at ai 1
        have i2 := cell_at ai 2
        have i3 := free_at ai 1
        have i4 := free_at ai 2
        simp only [List.getElem?_toArray, List.getElem?_cons_succ, List.getElem?_cons_zero] at i1 i2
        have HG1 : Hid (commit = true → Rel N D2 T ((wr.setCell ⟨i, 2, none⟩ (.pointer none)).alloc (.cells #[Pp i, .int .u64 u] 124)) (gives commit (left S x) ((S.wl x).take (k + 1))) ∧ Fr N D2 wr ((wr.setCell ⟨i, 2, none⟩ (.pointer none)).alloc (.cells #[Pp i, .int .u64 u] 124))) := fun e => by
          rw [htk, gives_snoc]
          subst e
          exact (give_step hA hi u _).1
        have HG2 : Hid (commit = false → Rel N D2 T (((wr.setCell ⟨i, 2, none⟩ (.pointer none)).setCell ⟨i, 1, none⟩ (.int .u64 u)).alloc (.cells #[Pp i, .int .u64 u] 124)) (gives commit (left S x) ((S.wl x).take (k + 1))) ∧ Fr N D2 wr (((wr.setCell ⟨i, 2, none⟩ (.pointer none)).setCell ⟨i, 1, none⟩ (.int .u64 u)).alloc (.cells #[Pp i, .int .u64 u] 124))) := fun e => by
          rw [htk, gives_snoc]
          subst e
          exact (give_step hA hi u _).2
        have FA := hide fA
        clear hA fA ai hpm hp htk hi eg
        generalize po _ = vw at i2
        generalize (gives commit (left S x) ((S.wl x).take k)).wn i = un at i1
        cases commit with
        | true =>
          have HG := HG1.out rfl
          have HGh := hide HG
          clear HG HG1 HG2
          go_wp2
          exact ⟨⟨k + 1, by omega, by simp, HGh.out.1, FA.out.trans HGh.out.2⟩, by simp [intOf]; omega⟩
        | false =>
          have HG := HG2.out rfl
          have HGh := hide HG
          clear HG HG1 HG2
          go_wp2
          exact ⟨⟨k + 1, by omega, by simp, HGh.out.1, FA.out.trans HGh.out.2⟩, by simp [intOf]; omega⟩
      · have hkm' : ¬ (k : Int) < (m : Int) := by omega
        obtain rfl : k = m := by omega
        rw [← hm, List.take_length] at hA
        have IA : Inv c (gives commit (left S x) (S.wl x)) := gives_inv II.out hx nod hw commit _ _
        obtain ⟨A, eA⟩ : ∃ A, gives commit (left S x) (S.wl x) = A := ⟨_, rfl⟩
        rw [eA] at hA IA
        have eB := fA.block B (.inr (hB ▸ LL.out.dB))
        have e7 := fA.block b7 (.inr LL.out.d7)
        have q5 : wr.cell? ⟨B, 5, none⟩ = some (.slice qa (S.ql x).length qk) := by rw [World.cell?_of_block eB, ← hB, cell_at LL.out.cB, LL.out.hQ]; rfl
        replace q7 := (World.cell?_of_block (a := ⟨b7, 0, none⟩) e7).trans q7
        obtain ⟨n, hn⟩ : ∃ n, (S.ql x).length = n := ⟨_, rfl⟩
        have hn2 : n ≤ 64 := by rw [← hn]; exact II.out.qlen hx
        rw [hn] at q5
        obtain ⟨i0, hi0, hz0, hz1, hz2⟩ := info_at info122
        have HA := hide hA
        have FA := hide fA
        have HI := hide IA
        clear hA fA IA q2
        go_wp2_with (at_make; refine wpList_make_full _ rfl _ _ 119 rfl 0 122 i0 _ 2 Yba.underlying119 hi0 hz0 hz1 .i64 .i64 n n n rfl rfl rfl rfl (by rw [hz2]; omega) (by unfold maxLen; omega) (Nat.zero_le _) ?_; intro wm hwm hgm; have q5' := (grown_cell hgm (World.block_lt_of_cell? _ _ q5) (by simp) 5).trans q5; have q7' := (grown_cell hgm (World.block_lt_of_cell? _ _ q7) (by simp) 0).trans q7; clear q5 q7; have HM := hide (And.intro hwm hgm); clear hwm hgm)
        obtain ⟨hwm, hgm⟩ := HM.out
        have hL : ∀ z ∈ S.ql x, z ∈ A.hs ∧ A.wt z ≠ none := fun z hz => by
          obtain ⟨h1, h2⟩ := II.out.q1 x hx z hz
          rw [← eA, gives_same]
          exact ⟨(List.mem_erase_of_ne (fun e : z = x => h2 (by rw [e]; exact hw))).2 h1, h2⟩
        have hL2 : ∀ z ∈ S.ql x, ∀ h ∈ A.hs, z ∉ A.ql h := fun z hz h hh hm => by
          rw [← eA, gives_same] at hh hm
          have hh' : h ∈ S.hs.erase x := hh
          have hm' : z ∈ S.ql h := hm
          have := II.out.q3 h (List.mem_of_mem_erase hh') x hx z hm' hz
          subst this
          exact nod.not_mem_erase hh'
        have L0 := L2.start (L := S.ql x) HA.out FA.out HI.out hwm hgm hL2
        have hRn : Hid (w.heap.size ≤ wr.heap.size) := by
          exact Nat.le_trans FX.out.size FA.out.size
        have HL := hide hL
        clear hwm hgm hL hL2 HM
        have etb : A.tb = S.tb := by rw [← eA, gives_same]; rfl
        generalize wr.heap.size = R at L0 hRn ⊢
        have L0' := hide L0
        clear L0
        go_loopw [65] (fun q wr => ∃ k : Nat, k ≤ n ∧ q = .int .i64 (k : Int) ∧ ∃ B5, L2 N D2 T R n c k (S.ql x) wc A wr B5) (fun q _ => n - (intOf q).toNat)
        case atStart => exact ⟨0, Nat.zero_le _, rfl, A, L0'.out⟩
        case round =>
          clear q5' q7'
          obtain ⟨k2, hk2, rfl, B5, hl2⟩ := hrel
          by_cases hkn : k2 < n
          · have hkn' : (k2 : Int) < (n : Int) := by omega
            obtain ⟨r5, i5, b5, Z⟩ := hl2.next (by omega) HL.out HI.out
            obtain ⟨z, hz⟩ : ∃ z, (S.ql x)[k2]'(by omega) = z := ⟨_, rfl⟩
            rw [hz] at Z
            obtain ⟨g, rfl, dg, d1⟩ := LL.out.cQ k2 (by omega)
            rw [hz] at d1
            replace d1 := (World.cell?_of_block (a := ⟨g, k2, none⟩) (hl2.fr.block g (.inr dg))).trans d1
            have c4 := Z.c4
            have f4 := Z.f4
            have lz := Z.lz
            have p0 := Z.r0
            have p1 := Z.r1
            rw [etb] at c4 f4 lz
            have ZZ := hide Z
            have H2 := hide hl2
            have HZ := hide hz
            clear Z hl2 hz dg
            have E18 := hide (H2.out.at18 (by omega) hn HZ.out ZZ.out.hz b5 i5)
            rw [etb] at E18
            go_upto_region 18 with fail
            obtain ⟨h18, I18, f18, u0, u1, e1, e2, e3, e4, e5, nx⟩ := E18.out
            refine end18 h18 I18 (by omega) (by show z ∈ B5.hs; rw [H2.out.ls.hs]; exact ZZ.out.hz) (by show i5 ∈ B5.its; rw [H2.out.ls.its]; exact ZZ.out.hi) hkn hn2 (by simp) (by simp) nx (by show B5.tb z = S.tb z; rw [H2.out.ls.tb, etb]) e1 e2 e3 e4 e5 ?_
            intro t79 t80 t81 t82 t83 t84 t85 t86 t87 t88 t89 t90 w' S' st g1 g2 g3
            have HD := hide (H2.out.done (by omega) hn (II.out.q2 x hx) HZ.out ZZ.out.hz ZZ.out.hi f18 g1 g2 g3)
            clear g1 g2 g3 h18 I18 f18 e1 e2 e3 e4 e5 nx E18
            go_wp2
            exact ⟨⟨k2 + 1, by omega, by simp, S', HD.out⟩, by simp [intOf]; omega⟩
          · have hkn' : ¬ (k2 : Int) < (n : Int) := by omega
            obtain rfl : k2 = n := by omega
            have eB2 := hl2.fr.block B (.inr (hB ▸ LL.out.dB))
            have e72 := hl2.fr.block b7 (.inr LL.out.d7)
            have q1 : wr.cell? ⟨B, 1, none⟩ = some (.int .u64 ((x : Int) + 1)) := by rw [World.cell?_of_block eB2, ← hB, cell_at LL.out.cB]; rfl
            have q7 : wr.cell? ⟨b7, 0, none⟩ = some (Pp B) := by rw [World.cell?_of_block e72, ← hB]; exact LL.out.c7
            have e64 : B5.ql 64 = S.hs := by rw [hl2.ls.l64, ← eA, gives_same]; exact hq
            have ehs : B5.hs = S.hs.erase x := by rw [hl2.ls.hs, ← eA, gives_same]; rfl
            have etb5 : B5.tb = S.tb := by rw [hl2.ls.tb, etb]
            have hts : ∀ y ∈ B5.ql 64, wr.cell? ⟨B5.tb y, 1, none⟩ = some (.int .u64 ((y : Int) + 1)) := fun y hy => by
              rw [e64] at hy
              by_cases e : y = x
              · rw [e, etb5, hB]
                exact q1
              · have hy5 : y ∈ B5.hs := by rw [ehs]; exact (List.mem_erase_of_ne e).2 hy
                exact (cell_at (hl2.rel.x.at_ y hy5) 1).trans rfl
            have hlen64 : S.hs.length ≤ 64 := len_le 64 S.hs nod II.out.lt
            have C67 := hide (first_any hl2.rel ((x : Int) + 1) (by rw [e64]; exact hlen64) hts (by rw [e64]; exact hs))
            have H2 := hide hl2
            clear hl2 hts eB2 e72
            go_upto_region 21 with (go_at_call 67; refine C67.out.mono ?_; rintro e w' ⟨i6, rfl, hp6, hw6⟩; obtain rfl := hw6.symm; have HP6 := hide hp6; clear hp6)
            have hp6 := HP6.out
            rw [e64] at hp6
            have hle6 := hp6.le
            obtain ⟨g8, n8, c8, q4, C68'⟩ := del64 H2.out.rel H2.out.ls.inv.no64 e64 hs hx hlen64 hp6
            have C68 := hide C68'
            clear C68' hp6 HP6 C67
            have hi6 : i6 ≤ 64 := by omega
            go_upto_region 22 with (go_at_call 68; refine C68.out.mono ?_; rintro e w' ⟨rfl, ⟨v8, p1⟩, p2, p3, p4⟩; have HP := hide (And.intro p3 p4); clear p3 p4)
            obtain ⟨h8, f8⟩ := HP.out
            generalize w'.setCell ⟨T, 4, none⟩ (.slice (some ⟨g8, 0, none⟩) (n8 - 1) c8) = X8 at h8 f8 ⊢
            have C69 := hide (sweep_any h8 (b := b) (by show B5.tm = some b; rw [H2.out.ls.tm, ← eA, gives_same]; exact htm) (by show B5.ks.length ≤ 64; rw [H2.out.ls.ks, ← eA, gives_same]; exact Nat.le_trans (List.length_erase_le) hlen64))
            clear h8 HP p1 p2 C68 q1 q7 q4
            have F8 := hide f8
            clear f8
            go_upto_region 23 with (go_at_call 69; refine C69.out.mono ?_; rintro e X9 ⟨rfl, o9, h9, f9, ho9⟩; have HP := hide (And.intro h9 (And.intro f9 ho9)); clear h9 f9 ho9)
            obtain ⟨h9, f9, ho9⟩ := HP.out
            clear HP C69
            have gl5 : B5.gl.length ≤ 100000 := Nat.le_trans H2.out.ls.inv.cg (by omega)
            have f89 := hide (F8.out.trans f9)
            have ho9' : Hid (B5.ks = [] → o9 = none) := ho9
            have HS : Hid (∀ X v l, Rel N (R :: D2) T X { B5 with Q := upd B5.Q 64 (.slice (some ⟨g8, 0, none⟩) (n8 - 1) c8), ql := upd B5.ql 64 (S.hs.erase x), im := o9, G := v, gl := l } → l.length ≤ 100000 → Calls Yba.prog 72 #[Pp T] X (FgPost N (R :: D2) T X { B5 with Q := upd B5.Q 64 (.slice (some ⟨g8, 0, none⟩) (n8 - 1) c8), ql := upd B5.ql 64 (S.hs.erase x), im := o9, G := v, gl := l })) := fun X v l hX hl => by
              refine forget_any SC hX hl ?_ ?_ ?_
              · show (upd B5.ql 64 (S.hs.erase x) 64).length ≤ 64
                rw [upd_same]
                exact Nat.le_trans List.length_erase_le hlen64
              · intro y hy
                have hy' : y ∈ upd B5.ql 64 (S.hs.erase x) 64 := hy
                rw [upd_same] at hy'
                show y ∈ B5.hs
                rw [ehs]
                exact hy'
              · show (upd B5.ql 64 (S.hs.erase x) 64).Pairwise (· < ·)
                rw [upd_same]
                exact hs.sublist List.erase_sublist
            have HE : Hid (∀ X v l, Rel N (R :: D2) T X { B5 with Q := upd B5.Q 64 (.slice (some ⟨g8, 0, none⟩) (n8 - 1) c8), ql := upd B5.ql 64 (S.hs.erase x), im := o9, G := v, gl := l } → Fr N (R :: D2) wr X → l.length ≤ B5.gl.length → ∀ e, e = .slice (some ⟨R, 0, none⟩) k2 k2 → EndPost N D T w S x commit c (.returned e) X) := fun X v l hX hf hl e he => by
              refine ⟨R, _, by rw [he, hn], end_res II.out hx nod hn hn2 eD LL.out.dB eA FX.out EX.out H2.out hRn.out hX hf hl ho9'.out⟩
            cases commit with
            | true =>
              have C72 := hide (HS.out X9 B5.G B5.gl h9 gl5)
              clear h9 f9 ho9
              go_wp2_with (go_at_call 72; refine C72.out.mono ?_; rintro e X11 ⟨rfl, v11, l11, h11, f11, hl11⟩; have HP := hide (And.intro h11 (And.intro f11 hl11)); clear h11 f11 hl11)
              go_ret
              exact HE.out X11 v11 l11 HP.out.1 (f89.out.trans HP.out.2.1) HP.out.2.2 _ rfl
            | false =>
              have e7 : X9.heap[b7]? = wc.heap[b7]? := (f89.out.block b7 (.inr (List.mem_cons_of_mem _ LL.out.d7))).trans (H2.out.fr.block b7 (.inr LL.out.d7))
              have eB : X9.heap[B]? = wc.heap[B]? := (f89.out.block B (.inr (List.mem_cons_of_mem _ (hB ▸ LL.out.dB)))).trans (H2.out.fr.block B (.inr (hB ▸ LL.out.dB)))
              have q7 : X9.cell? ⟨b7, 0, none⟩ = some (Pp B) := by rw [World.cell?_of_block e7, ← hB]; exact LL.out.c7
              have q1 : X9.cell? ⟨B, 1, none⟩ = some (.int .u64 ((x : Int) + 1)) := by rw [World.cell?_of_block eB, ← hB, cell_at LL.out.cB]; rfl
              have q5 : X9.cell? ⟨T, 5, none⟩ = some B5.G := (cell_at h9.t.at_ 5).trans rfl
              have C70 := hide (delG_set h9 gl5 b7 B ((x : Int) + 1) (World.block_lt_of_cell? _ _ q7) (World.block_lt_of_cell? _ _ q1) (.inr (List.mem_cons_of_mem _ LL.out.d7)) (.inr (List.mem_cons_of_mem _ (hB ▸ LL.out.dB))) q7 q1)
              clear h9 f9 ho9 e7 eB q7 q1
              go_upto_region 25 with (go_at_call 70; refine C70.out.mono ?_; rintro e X10 ⟨a10, n10, c10, l10, rfl, ⟨v10, p1⟩, p2, p3, p4, p5⟩; have HP := hide (And.intro p3 (And.intro p4 p5)); clear p3 p4 p5)
              obtain ⟨h10, f10, hl10⟩ := HP.out
              have C72 := hide (HS.out _ _ _ h10 (by have : l10.length ≤ B5.gl.length := hl10; omega))
              have F10 := hide f10
              generalize X10.setCell ⟨T, 5, none⟩ (.slice a10 n10 c10) = Y10 at C72 F10 ⊢
              have HL10 : Hid (l10.length ≤ B5.gl.length) := hl10
              clear h10 f10 hl10 HP p1 p2 q5
              go_wp2_with (go_at_call 72; refine C72.out.mono ?_; rintro e X11 ⟨rfl, v11, l11, h11, f11, hl11⟩; have HP := hide (And.intro h11 (And.intro f11 hl11)); clear h11 f11 hl11)
              go_ret
              exact HE.out X11 v11 l11 HP.out.1 ((f89.out.trans F10.out).trans HP.out.2.1) (Nat.le_trans HP.out.2.2 HL10.out) _ rfl

end Go.Proofs.Ybulkaggi.CE

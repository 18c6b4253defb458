import Derived.Test.YbulkaggiCe
namespace Go.Proofs.Ybulkaggi.CE
open Go.RowKit Go.WideMaps Go.Maps
set_option linter.unusedVariables false
set_option maxRecDepth 100000

def SortC : Prop := ∀ (g cp n base : Nat) (l : List (Int × Int)) (w : World), w.ownsRow base 150 2 (.slice (some ⟨g, 0, none⟩) n cp) n (l.flatMap ignC) → l.length = n → n ≤ 100000 →
  Calls Yba.prog 94 #[.slice (some ⟨g, 0, none⟩) n cp, .func (.func 95) #[] #[]] w fun e w' => e = .returned (.tuple #[]) ∧ UR base w' g n cp ∧ w.grownBy w' (some g)

theorem wpList_room {P : Program} (w : World) {ops : Array Oper} {rest : List Oper} {o : Oper} {a : Act} {Q : Exit → Act → World → Prop}
    (hg : o.guard = none) (s x : Operand) (t : TypeId) (hop : o.op = Op.call { callee := Callee.builtin Builtin.append, args := #[s, x], argTypes := #[t, t] })
    (e : TypeId) (i : TypeInfo) (size : Nat) (h1 : P.underlying t = some (.slice e)) (h2 : P.info? e = some i) (h4 : i.size = size)
    (b n cap : Nat) (hs : a.eval s = .slice (some ⟨b, 0, none⟩) n cap)
    (ad : Addr) (m c : Nat) (news : List Value) (hx : a.eval x = .slice (some ad) m c) (hn : news.length = m * size) (hc : ∀ j u, news[j]? = some u → w.cell? (ad.add j) = some u) (h1c : ∀ u ∈ news, u.oneCell' = true)
    (hroom : n + m ≤ cap) (hspare : ∀ j, j < news.length → (w.cell? ⟨b, 0 + n * size + j, none⟩).isSome = true ∧ w.frozen? ⟨b, 0 + n * size + j, none⟩ = false)
    (hK : wpList P ops Q rest (a.put o.dst (.slice (some ⟨b, 0, none⟩) (n + m) cap)) (w.setCells b (0 + n * size) news)) : wpList P ops Q (o :: rest) a w := by
  refine wpList_plain hg fun K hK' => ?_
  subst h4
  have hrun := run_append_room_cells (P := P) w t o.type e i h1 h2 b 0 n cap ad m c news hn hc h1c hroom (fun j hj => (hspare j hj).1) (fun j hj => (hspare j hj).2)
  unfold Oper.wp
  simp [execOp, hop, resolve, invoke, builtin, hs, hx, hrun, Result.andThen]
  exact hK' _ _ (by simpa using hK)

/-- The ignored row rewritten in its place. -/
theorem Rel.grownG {N : Nat} {D : List Nat} {T : Nat} {w w1 : World} {S : St} (h : Rel N D T w S) (hg : w.grownBy w1 S.G.ownBlock) {l' : List (Int × Int)} (ho : w1.ownsRow N 150 2 S.G l'.length (l'.flatMap ignC)) :
    Rel N D T w1 { S with gl := l' } ∧ Fr N D w w1 := by
  have hr := fun k (hk : S.G.ownBlock = some k) => own_tag h.g.own hk
  have k1 : ∀ t, t ≠ 150 → Kt t w w1 := fun t ht => Kt.grown hg hr ht
  have k2 : Km w w1 := Km.grown hg hr
  have k3 : Fr N D w w1 := Fr.grown h.low hg (fun k hk => h.g.ok k hk)
  exact ⟨⟨fun k hk => Nat.lt_of_lt_of_le (h.low k hk) hg.size, Nat.le_trans h.lowN hg.size, h.t.keep (k1 55 (by decide)), h.x.keep (k1 _ (by decide)), h.r.keep (k1 _ (by decide)), h.i.keep (k1 _ (by decide)), h.q.keep (k1 _ (by decide)), h.v.keep (k1 _ (by decide)), ⟨ho, h.g.ok⟩, h.m.keep k2⟩, k3⟩

def FgPost (N : Nat) (D : List Nat) (T : Nat) (w : World) (S : St) (e : Ending) (w' : World) : Prop :=
  e = .returned (.tuple #[]) ∧ ∃ v l, Rel N D T w' { S with G := v, gl := l } ∧ Fr N D w w' ∧ l.length ≤ S.gl.length

theorem forget_zero {N : Nat} {D : List Nat} {T : Nat} {w : World} {S : St} (h : Rel N D T w S) (h0 : S.gl.length = 0) :
    Calls Yba.prog 72 #[Pp T] w (FgPost N D T w S) := by
  obtain ⟨a, c, hv⟩ := sl_shape h.g.own
  rw [h0] at hv
  have c5 : w.cell? ⟨T, 5, none⟩ = some (.slice a 0 c) := by rw [← hv]; exact (cell_at h.t.at_ 5).trans rfl
  have HP : Hid (FgPost N D T w S (.returned (.tuple #[])) w) := ⟨rfl, S.G, S.gl, h, Fr.refl _ _ _, Nat.le_refl _⟩
  clear h hv
  go_enter Yba.func72, Yba.ntmps72
  go_wp2
  go_end0
  exact HP.out

structure FIn (N g n c bx : Nat) (a b : Int) (w X : World) : Prop where
  u : UR N X g n c
  gr : w.grownBy X (some g)
  b0 : X.cell? ⟨bx, 0, none⟩ = some (.int .u64 a)
  b1 : X.cell? ⟨bx, 1, none⟩ = some (.int .u64 b)
  ne : bx ≠ g
theorem FIn.drewN {N g n c bx : Nat} {a b : Int} {w X : World} (h : FIn N g n c bx a b w X) (k : Nat) : FIn N g n c bx a b w (X.drewN k) := by
  induction k with
  | zero => exact h
  | succ k ih => exact ⟨ih.u.keep rfl, grown_drewN h.gr _, ih.b0, ih.b1, h.ne⟩
theorem FIn.start {N g n c : Nat} {a b : Int} {w wr : World} (hu : UR N wr g n c) (hg : w.grownBy wr (some g)) : FIn N g n c wr.heap.size a b w (wr.alloc (.cells #[.int .u64 a, .int .u64 b] 150)) :=
  ⟨hu.alloc _, grown_none hg (grown_alloc _ _), (cell_at (heap_alloc_new wr _) 0).trans rfl, (cell_at (heap_alloc_new wr _) 1).trans rfl, by have := hu.lt.1; omega⟩
theorem FIn.lt {N g n c bx : Nat} {a b : Int} {w X : World} (h : FIn N g n c bx a b w X) {k : Nat} (hk : k < n) : ∃ a2 b2, X.cell? ⟨g, k * 2, none⟩ = some (.int .u64 a2) ∧ X.cell? ⟨g, k * 2 + 1, none⟩ = some (.int .u64 b2) := h.u.at_ hk
theorem FIn.app {N g n c bx : Nat} {a b : Int} {w X : World} (h : FIn N g n c bx a b w X) (o : Obj) (j : Nat) (vs : List Value) (hv : U64s vs) : FIn N g n c bx a b w ((X.alloc o).setCells g j vs) := by
  have hb : ((X.alloc o).setCells g j vs).heap[bx]? = X.heap[bx]? := ((At1.setCells vs j (At1.refl g (X.alloc o))).block bx h.ne).trans (Below.heap_alloc X o bx (World.block_lt_of_cell? X ⟨bx, 0, none⟩ h.b0))
  exact ⟨(h.u.alloc o).setCells j vs hv, grown_setCells vs j (grown_none h.gr (grown_alloc X o)), (World.cell?_of_block hb).trans h.b0, (World.cell?_of_block hb).trans h.b1, h.ne⟩
theorem FIn.src {X : World} (a b : Int) : ∀ (j : Nat) (u : Value), [Value.int .u64 a, .int .u64 b][j]? = some u → (X.alloc (.cells #[.int .u64 a, .int .u64 b] 150)).cell? ((⟨X.heap.size, 0, none⟩ : Addr).add j) = some u := fun j u hj => by
  have e : (⟨X.heap.size, 0, none⟩ : Addr).add j = ⟨X.heap.size, j, none⟩ := by unfold Addr.add; split <;> simp_all
  rw [e]
  exact news2 _ rfl j u hj
theorem FIn.spare {N g n c bx : Nat} {a b : Int} {w X : World} (h : FIn N g n c bx a b w X) (o : Obj) {m : Nat} (hm : m < n) (p q : Value) : ∀ j, j < [p, q].length → ((X.alloc o).cell? ⟨g, 0 + m * 2 + j, none⟩).isSome = true ∧ (X.alloc o).frozen? ⟨g, 0 + m * 2 + j, none⟩ = false := fun j hj => by
  obtain ⟨xs, hu, ho⟩ := (h.u.alloc o).own
  have := ho.1
  simp at hj
  refine ⟨?_, ho.frozenAt _⟩
  rw [ho.cellAt _ (by omega), List.getElem?_eq_getElem (by omega)]
  rfl
set_option maxHeartbeats 4000000 in
theorem forget_pos (SC : SortC) {N : Nat} {D : List Nat} {T : Nat} {w : World} {S : St} (h : Rel N D T w S) (g n c : Nat) (hG : S.G = .slice (some ⟨g, 0, none⟩) n c) (hgl : S.gl.length = n) (h0 : 0 < n) (hn : n ≤ 100000) (hlen : (S.ql 64).length ≤ 64) (hts : ∀ x ∈ S.ql 64, w.cell? ⟨S.tb x, 1, none⟩ = some (.int .u64 ((x : Int) + 1)) ∧ S.tb x ≠ g ∧ S.tb x < w.heap.size) (hs : (S.ql 64).Pairwise (· < ·)) :
    Calls Yba.prog 72 #[Pp T] w (FgPost N D T w S) := by
  have hb : S.G.ownBlock = some g := by rw [hG]; rfl
  have hTg : T ≠ g := by
    obtain ⟨cs, hc⟩ := own_tag h.g.own hb
    exact tag_ne h.t.at_ hc (by decide)
  have hrow := h.g.own
  rw [hG, hgl] at hrow
  have C := hide (SC g c n N S.gl w hrow hgl hn)
  have hT := h.t.at_
  have lt := hlt hT
  have c5 : w.cell? ⟨T, 5, none⟩ = some (.slice (some ⟨g, 0, none⟩) n c) := by rw [← hG]; exact (cell_at hT 5).trans rfl
  have f5 := free_at hT 5
  have HR : Hid (∀ w', w.grownBy w' (some g) → UR N w' g n c → ∃ l, l.length = n ∧ Rel N D T w' { S with gl := l } ∧ Fr N D w w' ∧ w'.cell? ⟨T, 5, none⟩ = some (.slice (some ⟨g, 0, none⟩) n c) ∧ w'.frozen? ⟨T, 5, none⟩ = false) := fun w' hg hu => by
    obtain ⟨l, hl, ho⟩ := hu.row
    obtain ⟨h1, h2⟩ := h.grownG (l' := l) (by rw [hb]; exact hg) (by rw [hG, hl]; exact ho)
    exact ⟨l, hl, h1, h2, (grown_cell hg lt (by simp [hTg]) 5).trans c5, (World.frozen?_of_block (hg.block T lt (by simp [hTg]))).trans f5⟩
  have HF : Hid (∀ w', w.grownBy w' (some g) → UR N w' g n c → w'.cell? ⟨T, 5, none⟩ = some (.slice (some ⟨g, 0, none⟩) n c) ∧ w'.frozen? ⟨T, 5, none⟩ = false) := fun w' hg hu => by
    obtain ⟨l, _, _, _, e1, e2⟩ := HR.out w' hg hu
    exact ⟨e1, e2⟩
  have HA : Hid (∀ w' f u, w.grownBy w' (some g) → UR N w' g n c → Calls Yba.prog 96 #[Pp T, .int .u64 f, .int .u64 u] w' fun e w'' => ∃ b, e = .returned (.bool b) ∧ w'' = w') := fun w' f u hg hu => by
    obtain ⟨l, hl, h1, h2, _⟩ := HR.out w' hg hu
    exact above_any h1 f u hlen (fun x hx => (grown_cell hg (hts x hx).2.2 (by simp [(hts x hx).2.1]) 1).trans (hts x hx).1) hs
  have HP : Hid (∀ w' m, w.grownBy w' (some g) → UR N w' g n c → m ≤ n → FgPost N D T w S (.returned (.tuple #[])) (w'.setCell ⟨T, 5, none⟩ (.slice (some ⟨g, 0, none⟩) m c))) := fun w' m hg hu hm => by
    obtain ⟨l, hl, ho⟩ := (hu.front hm).row
    obtain ⟨h1, h2⟩ := h.setG (w1 := w') (v' := .slice (some ⟨g, 0, none⟩) m c) (l' := l) (by rw [hb]; exact hg) (by rw [hl]; exact ho) (.inl (by rw [hb]; rfl))
    exact ⟨rfl, _, l, h1, h2, by omega⟩
  obtain ⟨i0, hi0, hz0, hz1, hz2⟩ := info_at info150
  clear h hT hts hs hlen hrow hb
  go_enter Yba.func72, Yba.ntmps72
  go_upto_region 2 with fail
  refine C.out.mono ?_
  rintro e w' ⟨rfl, hu0, hg0⟩
  have HU0 := hide hu0
  have HG0 := hide hg0
  clear hu0 hg0
  replace c5 : w'.cell? ⟨T, 5, none⟩ = some (.slice (some ⟨g, 0, none⟩) n c) := by obtain ⟨l, _, _, _, e1, e2⟩ := HR.out w' HG0.out HU0.out; exact e1
  have hnc := HU0.out.lt.2.2.1
  have hcc := HU0.out.lt.2.2.2
  go_wp2
  go_loopw [2, 3, 4] (fun p q r wr => ∃ m i : Nat, ∃ z : Int, m ≤ i ∧ i ≤ n ∧ p = .slice (some ⟨g, 0, none⟩) m c ∧ q = .int .u64 z ∧ r = .int .i64 (i : Int) ∧ UR N wr g n c ∧ w.grownBy wr (some g)) (fun p q r _ => n - (intOf r).toNat)
  case atStart => exact ⟨0, 0, _, by omega, by omega, by simp, rfl, rfl, HU0.out, HG0.out⟩
  case round =>
    obtain ⟨m, i, z, hmi, hin, rfl, rfl, rfl, hu, hg⟩ := hrel
    have HU := hide hu
    have HG := hide hg
    clear c5 HU0 HG0 f5
    obtain ⟨c5, f5⟩ := HF.out wr hg hu
    by_cases hkn : i < n
    · have hkn' : (i : Int) < (n : Int) := by omega
      obtain ⟨a, b, d1, d2⟩ := hu.at_ hkn
      have hst := hide (FIn.start (a := a) (b := b) hu hg)
      have hd0 : Hid ((wr.alloc (.cells #[.int .u64 a, .int .u64 b] 150)).cell? ⟨g, i * 2, none⟩ = some (.int .u64 a)) := (World.cell?_of_block (Below.heap_alloc wr _ g hu.lt.1)).trans d1
      clear hu hg
      go_wp2
      go_loopw [4] (fun r wr2 => ∃ k : Nat, i ≤ k ∧ k ≤ n ∧ r = .int .i64 (k : Int) ∧ FIn N g n c wr.heap.size a b w wr2 ∧ wr2.cell? ⟨g, i * 2, none⟩ = some (.int .u64 a)) (fun r _ => n - (intOf r).toNat)
      case atStart => exact ⟨i, Nat.le_refl _, by omega, rfl, hst.out, hd0.out⟩
      case round =>
        obtain ⟨k, hik, hkn2, rfl, hI, hc0⟩ := hrel
        clear c5 f5 d1 d2
        have b0 := hI.b0
        have b1 := hI.b1
        obtain ⟨c5, f5⟩ := HF.out wr hI.gr hI.u
        by_cases hk2 : k < n
        · have hk2' : (k : Int) < (n : Int) := by omega
          obtain ⟨a2, b2, d1, d2⟩ := hI.lt hk2
          by_cases he : a2 = a
          · subst he
            go_upto_region 7 with fail
            go_quiet (fail)
            have hI2 := hI.drewN nq
            have hc2 : (wr.drewN nq).cell? ⟨g, i * 2, none⟩ = some (.int .u64 a2) := hc0
            clear hI b0 b1 c5 f5 hc0 d1 d2
            generalize wr.drewN nq = X at hI2 hc2 ⊢
            go_wp2
            exact ⟨⟨k + 1, by omega, by omega, by simp, hI2, hc2⟩, by simp [intOf]; omega⟩
          · have hik2 : i < k := by
              rcases Nat.lt_or_ge i k with h | h
              · exact h
              · obtain rfl : i = k := by omega
                rw [hc0] at d1
                cases d1
                exact absurd rfl he
            have he2 : (a2 == a) = false := by simpa using he
            go_upto_region 7 with fail
            go_quiet (fail)
            have hI2 := hI.drewN nq
            clear hI b0 b1 c5 f5 hc0
            generalize wr.drewN nq = X at hI2 ⊢
            have b0 := hI2.b0
            have b1 := hI2.b1
            obtain ⟨c5, f5⟩ := HF.out X hI2.gr hI2.u
            have HI2 := hide hI2
            clear hI2
            by_cases hz : z ≤ b
            · go_wp2_with (at_builtin; refine wpList_room _ rfl (.tmp 70) (.tmp 72) 52 rfl 150 i0 2 Yba.underlying52 hi0 hz1 g m c rfl ⟨X.heap.size, 0, none⟩ 1 1 [.int .u64 a, .int .u64 b] rfl rfl (FIn.src a b) (u64_two a b).one (by omega) (HI2.out.spare _ (by omega) _ _) ?_; have HY := hide (HI2.out.app (.cells #[.int .u64 a, .int .u64 b] 150) (0 + m * 2) [.int .u64 a, .int .u64 b] (u64_two a b)); clear b0 b1 c5 f5 HI2; generalize (X.alloc (.cells #[.int .u64 a, .int .u64 b] 150)).setCells g (0 + m * 2) [.int .u64 a, .int .u64 b] = Y at HY ⊢; have b0 := HY.out.b0; have b1 := HY.out.b1)
              exact ⟨⟨m + 1, k, a, by omega, hkn2, rfl, rfl, rfl, HY.out.u, HY.out.gr⟩, by simp [intOf]; omega⟩
            · go_wp2_with (first | (go_at_call 96; refine (HA.out _ _ _ HI2.out.gr HI2.out.u).mono ?_; rintro e w' ⟨r, rfl, hw⟩; obtain rfl := hw.symm) | (at_builtin; refine wpList_room _ rfl (.tmp 70) (.tmp 72) 52 rfl 150 i0 2 Yba.underlying52 hi0 hz1 g m c rfl ⟨X.heap.size, 0, none⟩ 1 1 [.int .u64 a, .int .u64 b] rfl rfl (FIn.src a b) (u64_two a b).one (by omega) (HI2.out.spare _ (by omega) _ _) ?_; have HY := hide (HI2.out.app (.cells #[.int .u64 a, .int .u64 b] 150) (0 + m * 2) [.int .u64 a, .int .u64 b] (u64_two a b)); clear b0 b1 c5 f5 HI2; generalize (X.alloc (.cells #[.int .u64 a, .int .u64 b] 150)).setCells g (0 + m * 2) [.int .u64 a, .int .u64 b] = Y at HY ⊢; have b0 := HY.out.b0; have b1 := HY.out.b1))
              · exact ⟨⟨m + 1, k, a, by omega, hkn2, rfl, rfl, rfl, HY.out.u, HY.out.gr⟩, by simp [intOf]; omega⟩
              · exact ⟨⟨m, k, z, by omega, hkn2, rfl, rfl, rfl, HI2.out.u, HI2.out.gr⟩, by simp [intOf]; omega⟩
        · have hk2' : ¬ (k : Int) < (n : Int) := by omega
          have hik2 : i < k := by omega
          go_upto_region 7 with fail
          go_quiet (fail)
          have hI2 := hI.drewN nq
          clear hI b0 b1 c5 f5 hc0
          generalize wr.drewN nq = X at hI2 ⊢
          have b0 := hI2.b0
          have b1 := hI2.b1
          obtain ⟨c5, f5⟩ := HF.out X hI2.gr hI2.u
          have HI2 := hide hI2
          clear hI2
          by_cases hz : z ≤ b
          · go_wp2_with (at_builtin; refine wpList_room _ rfl (.tmp 70) (.tmp 72) 52 rfl 150 i0 2 Yba.underlying52 hi0 hz1 g m c rfl ⟨X.heap.size, 0, none⟩ 1 1 [.int .u64 a, .int .u64 b] rfl rfl (FIn.src a b) (u64_two a b).one (by omega) (HI2.out.spare _ (by omega) _ _) ?_; have HY := hide (HI2.out.app (.cells #[.int .u64 a, .int .u64 b] 150) (0 + m * 2) [.int .u64 a, .int .u64 b] (u64_two a b)); clear b0 b1 c5 f5 HI2; generalize (X.alloc (.cells #[.int .u64 a, .int .u64 b] 150)).setCells g (0 + m * 2) [.int .u64 a, .int .u64 b] = Y at HY ⊢; have b0 := HY.out.b0; have b1 := HY.out.b1)
            exact ⟨⟨m + 1, k, a, by omega, hkn2, rfl, rfl, rfl, HY.out.u, HY.out.gr⟩, by simp [intOf]; omega⟩
          · go_wp2_with (first | (go_at_call 96; refine (HA.out _ _ _ HI2.out.gr HI2.out.u).mono ?_; rintro e w' ⟨r, rfl, hw⟩; obtain rfl := hw.symm) | (at_builtin; refine wpList_room _ rfl (.tmp 70) (.tmp 72) 52 rfl 150 i0 2 Yba.underlying52 hi0 hz1 g m c rfl ⟨X.heap.size, 0, none⟩ 1 1 [.int .u64 a, .int .u64 b] rfl rfl (FIn.src a b) (u64_two a b).one (by omega) (HI2.out.spare _ (by omega) _ _) ?_; have HY := hide (HI2.out.app (.cells #[.int .u64 a, .int .u64 b] 150) (0 + m * 2) [.int .u64 a, .int .u64 b] (u64_two a b)); clear b0 b1 c5 f5 HI2; generalize (X.alloc (.cells #[.int .u64 a, .int .u64 b] 150)).setCells g (0 + m * 2) [.int .u64 a, .int .u64 b] = Y at HY ⊢; have b0 := HY.out.b0; have b1 := HY.out.b1))
            · exact ⟨⟨m + 1, k, a, by omega, hkn2, rfl, rfl, rfl, HY.out.u, HY.out.gr⟩, by simp [intOf]; omega⟩
            · exact ⟨⟨m, k, z, by omega, hkn2, rfl, rfl, rfl, HI2.out.u, HI2.out.gr⟩, by simp [intOf]; omega⟩
    · have hkn' : ¬ (i : Int) < (n : Int) := by omega
      have HQ := hide (HP.out wr m HG.out HU.out (by omega))
      clear hu hg
      go_wp2
      go_end0
      exact HQ.out

end Go.Proofs.Ybulkaggi.CE

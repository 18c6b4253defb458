import Derived.Test.YbulkaggiBe
namespace Go.Proofs.Ybulkaggi.BM
open Go.RowKit Go.Proofs.Ybulkaggi
open Go.Proofs.Ybulkaggi.CE (hlt tag_ne)
set_option linter.unusedVariables false
set_option maxRecDepth 100000

theorem results_cell_one {fn : Func} {p : Tmp} {ty : TypeId} (h : fn.results = #[.cell p ty]) (tmps : Array Value) (P : Program) (w : World) :
    (results fn tmps).run P w = ((asAddr (tmps.getD p undef)).run P w).andThen fun a w₁ => (loadVar ty a).run P w₁ := by
  simp only [results, h]
  simp [Sem.run_bind]
theorem kind_of {L : List O3} {p t j : Nat} (h : rdP L p t j ∨ wrP L p t j) : ∃ o, L[p]? = some o ∧ o.1 ≤ 2 ∧ (o.1 = 2 → wrP L p t j) ∧ (o.1 ≤ 1 → rdP L p t j) := by
  rcases h with ⟨o, h1, h2⟩ | ⟨o, h1, h2⟩
  · have h3 := h2
    simp only [rdB, decide_eq_true_eq] at h3
    exact ⟨o, h1, by omega, fun e => by omega, fun _ => ⟨o, h1, h2⟩⟩
  · have h3 := h2
    simp only [wrB, decide_eq_true_eq] at h3
    exact ⟨o, h1, by omega, fun _ => ⟨o, h1, h2⟩, fun e => by omega⟩
theorem ev_txn {L : List O3} {p t t' j : Nat} (h : rdP L p t j ∨ wrP L p t j) (h' : rdP L p t' j ∨ wrP L p t' j) : t = t' := by
  have f : ∀ {t}, (rdP L p t j ∨ wrP L p t j) → ∃ o, L[p]? = some o ∧ o.2.1 = t := fun h => by
    rcases h with ⟨o, h1, h2⟩ | ⟨o, h1, h2⟩
    · simp only [rdB, decide_eq_true_eq] at h2; exact ⟨o, h1, h2.1⟩
    · simp only [wrB, decide_eq_true_eq] at h2; exact ⟨o, h1, h2.1⟩
  obtain ⟨o, h1, h2⟩ := f h
  obtain ⟨o', h3, h4⟩ := f h'
  rw [h1] at h3
  cases h3
  omega
/-- The next one is A's. -/
theorem next_a {E : Ev} {A B : List Nat} {i k u p : Nat} (ha : At A i u) (hb : At B k u) (mA : ∀ p, p ∈ A ↔ (rdP E.L p E.a E.j ∨ wrP E.L p E.a E.j)) (mB : ∀ p, p ∈ B ↔ (rdP E.L p E.b E.j ∨ wrP E.L p E.b E.j)) (asc : A.Pairwise (· < ·)) (hp : A[i]? = some p) (hB : ∀ x (hx : x < B.length), k ≤ x → p < B[x]) :
    E.gap u p ∧ At A (i + 1) (p + 1) ∧ At B k (p + 1) ∧ p < E.L.length ∧ (rdP E.L p E.a E.j ∨ wrP E.L p E.a E.j) := by
  obtain ⟨hi, rfl⟩ := List.getElem?_eq_some_iff.1 hp
  have hm := (mA _).1 (List.getElem_mem hi)
  have hu := ha.hi i hi (Nat.le_refl _)
  refine ⟨gap_of ha hb mA mB hu (fun x hx h => ?_) (fun x hx h => Nat.le_of_lt (hB x hx h)), ha.take asc hi, hb.pass hB hu, rd_lt hm, hm⟩
  by_cases e : x = i
  · subst e; exact Nat.le_refl _
  · exact Nat.le_of_lt (List.pairwise_iff_getElem.1 asc i x hi hx (by omega))
/-- The next one is B's. -/
theorem next_b {E : Ev} {A B : List Nat} {i k u p : Nat} (ha : At A i u) (hb : At B k u) (mA : ∀ p, p ∈ A ↔ (rdP E.L p E.a E.j ∨ wrP E.L p E.a E.j)) (mB : ∀ p, p ∈ B ↔ (rdP E.L p E.b E.j ∨ wrP E.L p E.b E.j)) (asc : B.Pairwise (· < ·)) (hp : B[k]? = some p) (hA : ∀ x (hx : x < A.length), i ≤ x → p < A[x]) :
    E.gap u p ∧ At A i (p + 1) ∧ At B (k + 1) (p + 1) ∧ p < E.L.length ∧ (rdP E.L p E.b E.j ∨ wrP E.L p E.b E.j) := by
  obtain ⟨hi, rfl⟩ := List.getElem?_eq_some_iff.1 hp
  have hm := (mB _).1 (List.getElem_mem hi)
  have hu := hb.hi k hi (Nat.le_refl _)
  refine ⟨gap_of ha hb mA mB hu (fun x hx h => Nat.le_of_lt (hA x hx h)) (fun x hx h => ?_), ha.pass hA hu, hb.take asc hi, rd_lt hm, hm⟩
  by_cases e : x = k
  · subst e; exact Nat.le_refl _
  · exact Nat.le_of_lt (List.pairwise_iff_getElem.1 asc k x hi hx (by omega))
theorem asc_ge {B : List Nat} {k q : Nat} (asc : B.Pairwise (· < ·)) (hq : B[k]? = some q) : ∀ x (hx : x < B.length), k ≤ x → q ≤ B[x] := fun x hx h => by
  obtain ⟨hk, rfl⟩ := List.getElem?_eq_some_iff.1 hq
  by_cases e : x = k
  · subst e; exact Nat.le_refl _
  · exact Nat.le_of_lt (List.pairwise_iff_getElem.1 asc k x hk hx (by omega))

set_option maxHeartbeats 4000000 in
theorem compare_any (g n c : Nat) (L : List O3) (w : World) (hn : n ≤ 256) (hl : L.length = n) (h : OpsAt w g L) (hg : g < w.heap.size) (x y : RunV) (j ta fa la sa tb fb lb sb : Nat) (hx : RunAt w L j x ta fa la sa) (hy : RunAt w L j y tb fb lb sb) (hab : ta ≠ tb) :
    Calls Yba.prog 33 #[.slice (some ⟨g, 0, none⟩) n c, x.val, y.val] w (CmpPost w ⟨L, ta, tb, j, sb⟩) := by
  obtain ⟨E, hE⟩ : ∃ E : Ev, E = ⟨L, ta, tb, j, sb⟩ := ⟨_, rfl⟩
  have HX := hide hx
  have HY := hide hy
  have H := hide h
  have HL := hide hl
  have HG := hide hg
  have HE := hide hE
  have HAB := hide hab
  have lx := hlt hx.blk
  have ly := hlt hy.blk
  have lxg := hx.lt
  have lyg := hy.lt
  have lenX : x.A.length ≤ 256 := by
    have := CE.len_le 256 x.A (CE.nod_of hx.asc) (fun p hp => by have := rd_lt ((hx.mem p).1 hp); omega)
    exact this
  have lenY : y.A.length ≤ 256 := by
    have := CE.len_le 256 y.A (CE.nod_of hy.asc) (fun p hp => by have := rd_lt ((hy.mem p).1 hp); omega)
    exact this
  rw [← hE]
  clear hx hy h hl hg hE hab
  obtain ⟨bx, gx, ox, cx, A⟩ := x
  obtain ⟨by_, gy, oy, cy, B⟩ := y
  simp only [RunV.val] at *
  go_enter Yba.func33, Yba.ntmps33
  go_upto_region 2 with fail
  have hb4 : Below w.heap.size w ((((w.alloc (.cells #[Pp bx, .slice (some ⟨gx, ox, none⟩) A.length cx] 94)).alloc (.cells #[Pp by_, .slice (some ⟨gy, oy, none⟩) B.length cy] 94)).alloc (.cells (flC false false false false) 96)).alloc (.cells (flC false false false false) 96)) := ((((Below.refl _ _).alloc (Nat.le_refl _) _).alloc (by simp) _).alloc (by simp; omega) _).alloc (by simp; omega) _
  obtain ⟨e0, e1⟩ := two_new w (.cells #[Pp bx, .slice (some ⟨gx, ox, none⟩) A.length cx] 94) (.cells #[Pp by_, .slice (some ⟨gy, oy, none⟩) B.length cy] 94)
  obtain ⟨e2, e3⟩ := two_new ((w.alloc (.cells #[Pp bx, .slice (some ⟨gx, ox, none⟩) A.length cx] 94)).alloc (.cells #[Pp by_, .slice (some ⟨gy, oy, none⟩) B.length cy] 94)) (.cells (flC false false false false) 96) (.cells (flC false false false false) 96)
  have hs2 : ((w.alloc (.cells #[Pp bx, .slice (some ⟨gx, ox, none⟩) A.length cx] 94)).alloc (.cells #[Pp by_, .slice (some ⟨gy, oy, none⟩) B.length cy] 94)).heap.size = w.heap.size + 1 + 1 := by simp
  rw [hs2] at e2 e3
  have e0' := ((Below.heap_alloc _ (.cells (flC false false false false) 96) w.heap.size (by simp <;> omega)).trans (Below.heap_alloc _ (.cells (flC false false false false) 96) w.heap.size (by simp <;> omega))).trans e0
  have e1' := ((Below.heap_alloc _ (.cells (flC false false false false) 96) (w.heap.size + 1) (by simp <;> omega)).trans (Below.heap_alloc _ (.cells (flC false false false false) 96) (w.heap.size + 1) (by simp))).trans e1
  have hs4 : ((((w.alloc (.cells #[Pp bx, .slice (some ⟨gx, ox, none⟩) A.length cx] 94)).alloc (.cells #[Pp by_, .slice (some ⟨gy, oy, none⟩) B.length cy] 94)).alloc (.cells (flC false false false false) 96)).alloc (.cells (flC false false false false) 96)).heap.size = w.heap.size + 1 + 1 + 1 + 1 := by simp
  clear hs2 e0 e1
  generalize ((((w.alloc (.cells #[Pp bx, .slice (some ⟨gx, ox, none⟩) A.length cx] 94)).alloc (.cells #[Pp by_, .slice (some ⟨gy, oy, none⟩) B.length cy] 94)).alloc (.cells (flC false false false false) 96)).alloc (.cells (flC false false false false) 96)) = w4 at *
  obtain ⟨X, hX⟩ : ∃ X, w.heap.size = X := ⟨_, rfl⟩
  have hX1 : Hid (w.heap.size = X) := hX
  rw [hX] at hb4 e0' e1' e2 e3 hs4 lx ly lxg lyg HG ⊢
  clear hX
  have HB4 := hide hb4
  have H0 := hide e0'
  have H1 := hide e1'
  have H2 := hide e2
  have H3 := hide e3
  clear hb4 e0' e1' e2 e3
  go_wp2
  go_loopw [8, 9, 10, 11, 12, 13, 14] (fun v8 v9 v10 v11 v12 v13 v14 wx => ∃ (aR bR bW pd wb ls nr rb ra : Bool) (i k u : Nat), v8 = .bool aR ∧ v9 = .bool bR ∧ v10 = .bool bW ∧ v11 = .bool pd ∧ v12 = .bool wb ∧ v13 = .int .i64 (i : Int) ∧ v14 = .int .i64 (k : Int) ∧ At A i u ∧ At B k u ∧ u ≤ n ∧ Fl E u aR bR bW pd wb ls nr rb ra ∧ wx.heap[X + 1 + 1 + 1]? = some (.cells (flC ls nr rb ra) 96 (0, 0)) ∧ Below (X + 1 + 1 + 1) w4 wx) (fun _ _ _ _ _ v13 v14 _ => (A.length - (intOf v13).toNat) + (B.length - (intOf v14).toNat))
  case atStart => exact ⟨false, false, false, false, false, false, false, false, false, 0, 0, 0, rfl, rfl, rfl, rfl, rfl, rfl, rfl, At.start A, At.start B, Nat.zero_le _, Fl.start E, H3.out, Below.refl _ _⟩
  case round =>
    obtain ⟨aR, bR, bW, pd, wb, ls, nr, rb, ra, i, k, u, rfl, rfl, rfl, rfl, rfl, rfl, rfl, hA, hB, hu, hF, hc, hbl⟩ := hrel
    have ex0 := (hbl.block X (by omega)).trans H0.out
    have ex1 := (hbl.block (X + 1) (by omega)).trans H1.out
    have ex2 := (hbl.block (X + 1 + 1) (by omega)).trans H2.out
    have x0 : wr.cell? ⟨X, 0, none⟩ = some (Pp bx) := (cell_at ex0 0).trans rfl
    have x1 : wr.cell? ⟨X, 1, none⟩ = some (.slice (some ⟨gx, ox, none⟩) A.length cx) := (cell_at ex0 1).trans rfl
    have y0 : wr.cell? ⟨X + 1, 0, none⟩ = some (Pp by_) := (cell_at ex1 0).trans rfl
    have y1 : wr.cell? ⟨X + 1, 1, none⟩ = some (.slice (some ⟨gy, oy, none⟩) B.length cy) := (cell_at ex1 1).trans rfl
    have c0 : wr.cell? ⟨X + 1 + 1 + 1, 0, none⟩ = some (.bool ls) := (cell_at hc 0).trans rfl
    have c1 : wr.cell? ⟨X + 1 + 1 + 1, 1, none⟩ = some (.bool nr) := (cell_at hc 1).trans rfl
    have c2 : wr.cell? ⟨X + 1 + 1 + 1, 2, none⟩ = some (.bool rb) := (cell_at hc 2).trans rfl
    have c3 : wr.cell? ⟨X + 1 + 1 + 1, 3, none⟩ = some (.bool ra) := (cell_at hc 3).trans rfl
    have z0 := free_at hc 0
    have z1 := free_at hc 1
    have z2 := free_at hc 2
    have z3 := free_at hc 3
    have old : ∀ b, b < X → wr.heap[b]? = w.heap[b]? := fun b hb => (hbl.block b (by omega)).trans (HB4.out.block b hb)
    have yb : wr.cell? ⟨by_, 3, none⟩ = some (.int .i64 (sb : Int)) := (World.cell?_of_block (a := ⟨by_, 3, none⟩) (old by_ ly)).trans ((cell_at HY.out.blk 3).trans rfl)
    have hop := H.out.keep (old g HG.out)
    have pX : ∀ q v, A[q]? = some v → wr.cell? ⟨gx, ox + q, none⟩ = some (.int .i64 (v : Nat)) := fun q v h => by
      obtain ⟨h1, rfl⟩ := List.getElem?_eq_some_iff.1 h
      exact (World.cell?_of_block (a := ⟨gx, ox + q, none⟩) (old gx lxg)).trans (HX.out.pos q h1)
    have pY : ∀ q v, B[q]? = some v → wr.cell? ⟨gy, oy + q, none⟩ = some (.int .i64 (v : Nat)) := fun q v h => by
      obtain ⟨h1, rfl⟩ := List.getElem?_eq_some_iff.1 h
      exact (World.cell?_of_block (a := ⟨gy, oy + q, none⟩) (old gy lyg)).trans (HY.out.pos q h1)
    have HA := hide hA
    have HBB := hide hB
    have HF := hide hF
    have HCC := hide hc
    have HBL := hide hbl
    have HOP := hide hop
    have HPX := hide pX
    have HPY := hide pY
    have mA : Hid (∀ p, p ∈ A ↔ (rdP E.L p E.a E.j ∨ wrP E.L p E.a E.j)) := by rw [HE.out]; exact HX.out.mem
    have mB : Hid (∀ p, p ∈ B ↔ (rdP E.L p E.b E.j ∨ wrP E.L p E.b E.j)) := by rw [HE.out]; exact HY.out.mem
    have hEab : Hid (E.a ≠ E.b) := by rw [HE.out]; exact HAB.out
    have eEL : Hid (E.L = L) := by rw [HE.out]; exact rfl
    have eEs : Hid (E.s = sb) := by rw [HE.out]; exact rfl
    have iA := hA.le
    have kB := hB.le
    -- what one event at the c block leaves
    have ST : Hid (∀ (l1 n1 r1 a1 : Bool) (wx : World), wx.heap[X + 1 + 1 + 1]? = some (.cells (flC l1 n1 r1 a1) 96 (0, 0)) → (∀ b, b < X + 1 + 1 + 1 → wx.heap[b]? = wr.heap[b]?) → wx.os = wr.os → wx.tape = wr.tape → wx.output = wr.output → wr.heap.size ≤ wx.heap.size → wx.heap[X + 1 + 1 + 1]? = some (.cells (flC l1 n1 r1 a1) 96 (0, 0)) ∧ Below (X + 1 + 1 + 1) w4 wx) := fun l1 n1 r1 a1 wx h1 h2 h3 h4 h5 h6 => ⟨h1, HBL.out.trans ⟨h3, h4, h5, h6, h2⟩⟩
    clear hA hB hF hc hbl hop pX pY ex0 ex1 ex2 old
    have HASX : Hid (A.Pairwise (· < ·)) := HX.out.asc
    have HASY : Hid (B.Pairwise (· < ·)) := HY.out.asc
    -- an event of A
    have GA : Hid (∀ p, A[i]? = some p → (∀ x (hx : x < B.length), k ≤ x → p < B[x]) → ∃ kk, kk ≤ 2 ∧ p < n ∧ wr.cell? ⟨g, p * 3, none⟩ = some (.string (actB kk)) ∧ At A (i + 1) (p + 1) ∧ At B k (p + 1) ∧ (kk = 2 → Fl E (p + 1) aR bR bW (pd || bR) wb ls nr rb ra) ∧ (kk ≤ 1 → Fl E (p + 1) true bR bW pd false ls (nr || (wb && decide (p < sb))) rb (ra || (bW && decide (p < sb))))) := fun p hp hB => by
      obtain ⟨g1, g2, g3, g4, g5⟩ := next_a HA.out HBB.out mA.out mB.out HASX.out hp hB
      obtain ⟨o, ho, k1, k2, k3⟩ := kind_of g5
      rw [eEL.out] at ho g4
      obtain ⟨hpl, hoe⟩ := List.getElem?_eq_some_iff.1 ho
      have oc := HOP.out.a p hpl
      rw [hoe] at oc
      refine ⟨o.1, k1, by rw [← HL.out]; exact g4, oc, g2, g3, fun e => (HF.out.gap g1).wa hEab.out (k2 e), fun e => (HF.out.gap g1).rda hEab.out (k3 e) _ ?_⟩
      rw [eEs.out]
      simp
    have GB : Hid (∀ p, B[k]? = some p → (∀ x (hx : x < A.length), i ≤ x → p < A[x]) → ∃ kk, kk ≤ 2 ∧ p < n ∧ wr.cell? ⟨g, p * 3, none⟩ = some (.string (actB kk)) ∧ At A i (p + 1) ∧ At B (k + 1) (p + 1) ∧ (kk = 2 → Fl E (p + 1) aR bR true pd (wb || aR) (ls || pd) nr (rb || aR) ra) ∧ (kk ≤ 1 → Fl E (p + 1) aR true bW false wb ls nr rb ra)) := fun p hp hA => by
      obtain ⟨g1, g2, g3, g4, g5⟩ := next_b HA.out HBB.out mA.out mB.out HASY.out hp hA
      obtain ⟨o, ho, k1, k2, k3⟩ := kind_of g5
      rw [eEL.out] at ho g4
      obtain ⟨hpl, hoe⟩ := List.getElem?_eq_some_iff.1 ho
      have oc := HOP.out.a p hpl
      rw [hoe] at oc
      exact ⟨o.1, k1, by rw [← HL.out]; exact g4, oc, g2, g3, fun e => (HF.out.gap g1).wrb hEab.out (k2 e), fun e => (HF.out.gap g1).rdb hEab.out (k3 e)⟩
    have ND : Hid (∀ p, p ∈ A → p ∈ B → False) := fun p h1 h2 => hEab.out (ev_txn ((mA.out p).1 h1) ((mB.out p).1 h2))
    have S1 : Hid (∀ (a b : Bool) (nq : Nat), (((wr.drewN nq).setCell ⟨X + 1 + 1 + 1, 1, none⟩ (.bool a)).setCell ⟨X + 1 + 1 + 1, 3, none⟩ (.bool b)).heap[X + 1 + 1 + 1]? = some (.cells (flC ls a rb b) 96 (0, 0)) ∧ Below (X + 1 + 1 + 1) w4 (((wr.drewN nq).setCell ⟨X + 1 + 1 + 1, 1, none⟩ (.bool a)).setCell ⟨X + 1 + 1 + 1, 3, none⟩ (.bool b))) := fun a b nq => by
      have h0 : (wr.drewN nq).heap[X + 1 + 1 + 1]? = some (.cells (flC ls nr rb ra) 96 (0, 0)) := HCC.out
      have h1 := heap_setCell_same _ (X + 1 + 1 + 1) 1 _ 96 (.bool a) h0
      have h2 := heap_setCell_same _ (X + 1 + 1 + 1) 3 _ 96 (.bool b) h1
      have hbq : Below (X + 1 + 1 + 1) w4 (wr.drewN nq) := HBL.out.trans ⟨rfl, rfl, rfl, Nat.le_refl _, fun _ _ => rfl⟩
      exact ⟨h2, below_set' (below_set' hbq (Nat.le_refl _) 1 (.bool a)) (Nat.le_refl _) 3 (.bool b)⟩
    have S2 : Hid (∀ (a b : Bool) (nq : Nat), (((wr.drewN nq).setCell ⟨X + 1 + 1 + 1, 0, none⟩ (.bool a)).setCell ⟨X + 1 + 1 + 1, 2, none⟩ (.bool b)).heap[X + 1 + 1 + 1]? = some (.cells (flC a nr b ra) 96 (0, 0)) ∧ Below (X + 1 + 1 + 1) w4 (((wr.drewN nq).setCell ⟨X + 1 + 1 + 1, 0, none⟩ (.bool a)).setCell ⟨X + 1 + 1 + 1, 2, none⟩ (.bool b))) := fun a b nq => by
      have h0 : (wr.drewN nq).heap[X + 1 + 1 + 1]? = some (.cells (flC ls nr rb ra) 96 (0, 0)) := HCC.out
      have h1 := heap_setCell_same _ (X + 1 + 1 + 1) 0 _ 96 (.bool a) h0
      have h2 := heap_setCell_same _ (X + 1 + 1 + 1) 2 _ 96 (.bool b) h1
      have hbq : Below (X + 1 + 1 + 1) w4 (wr.drewN nq) := HBL.out.trans ⟨rfl, rfl, rfl, Nat.le_refl _, fun _ _ => rfl⟩
      exact ⟨h2, below_set' (below_set' hbq (Nat.le_refl _) 0 (.bool a)) (Nat.le_refl _) 2 (.bool b)⟩
    have S0 : Hid (∀ nq : Nat, (wr.drewN nq).heap[X + 1 + 1 + 1]? = some (.cells (flC ls nr rb ra) 96 (0, 0)) ∧ Below (X + 1 + 1 + 1) w4 (wr.drewN nq)) := fun nq => ⟨HCC.out, HBL.out.trans ⟨rfl, rfl, rfl, Nat.le_refl _, fun _ _ => rfl⟩⟩
    obtain ⟨d0, d1, d2, d3, f0, f1, f2, f3⟩ : wr.cell? ⟨X + 1 + 1, 0, none⟩ = some (.bool false) ∧ wr.cell? ⟨X + 1 + 1, 1, none⟩ = some (.bool false) ∧ wr.cell? ⟨X + 1 + 1, 2, none⟩ = some (.bool false) ∧ wr.cell? ⟨X + 1 + 1, 3, none⟩ = some (.bool false) ∧ wr.frozen? ⟨X + 1 + 1, 0, none⟩ = false ∧ wr.frozen? ⟨X + 1 + 1, 1, none⟩ = false ∧ wr.frozen? ⟨X + 1 + 1, 2, none⟩ = false ∧ wr.frozen? ⟨X + 1 + 1, 3, none⟩ = false := by
      have ex2 := (HBL.out.block (X + 1 + 1) (by omega)).trans H2.out
      exact ⟨(cell_at ex2 0).trans rfl, (cell_at ex2 1).trans rfl, (cell_at ex2 2).trans rfl, (cell_at ex2 3).trans rfl, free_at ex2 0, free_at ex2 1, free_at ex2 2, free_at ex2 3⟩
    have FIN : Hid (i = A.length → k = B.length → ∀ w', Below X wr w' → CmpPost w E (.returned (.agg (flC ls nr rb ra))) w') := fun e1 e2 w' hw' => by
      have gp : E.gap u n := gap_of HA.out HBB.out mA.out mB.out hu (fun x hx h => by omega) (fun x hx h => by omega)
      have hf := HF.out.gap gp
      have el : E.L.length = n := by rw [eEL.out]; exact HL.out
      refine ⟨ls, nr, rb, ra, rfl, by rw [el]; exact hf.ls, by rw [el]; exact hf.nr, by rw [el]; exact hf.rb, by rw [el]; exact hf.ra, ?_⟩
      rw [hX1.out]
      exact (HB4.out.trans ⟨HBL.out.os, HBL.out.tape, HBL.out.output, HBL.out.size, fun b hb => HBL.out.block b (by omega)⟩).trans hw'
    clear HOP HX HY H HL HE HAB mA mB HF HCC HBL HA HBB H0 H1 H2 H3 HB4 hX1 ST eEL eEs hEab
    obtain ⟨nA, hnA⟩ : ∃ nA, A.length = nA := ⟨_, rfl⟩
    obtain ⟨nB, hnB⟩ : ∃ nB, B.length = nB := ⟨_, rfl⟩
    rw [hnA] at x1 lenX iA ⊢
    rw [hnB] at y1 lenY kB ⊢
    have HNA := hide hnA
    have HNB := hide hnB
    clear hnA hnB
    by_cases hi : i < nA
    · have hi' : (i : Int) < (nA : Int) := by omega
      obtain ⟨p, hp⟩ : ∃ p, A[i]? = some p := ⟨_, List.getElem?_eq_getElem (by rw [HNA.out]; exact hi)⟩
      have pa := HPX.out i p hp
      have HP := hide hp
      clear hp
      by_cases hk : k < nB
      · have hk' : (k : Int) < (nB : Int) := by omega
        obtain ⟨q, hq⟩ : ∃ q, B[k]? = some q := ⟨_, List.getElem?_eq_getElem (by rw [HNB.out]; exact hk)⟩
        have pb := HPY.out k q hq
        have HQ := hide hq
        clear hq
        by_cases hpq : p < q
        · have hpq' : (p : Int) < (q : Int) := by omega
          obtain ⟨kk, k2, pn, oc, hA1, hB1, fw, fr⟩ := GA.out p HP.out (fun x hx h => Nat.lt_of_lt_of_le hpq (asc_ge HASY.out HQ.out x hx h))
          have HA1 := hide hA1
          have HB1 := hide hB1
          have FW := hide fw
          have FRD := hide fr
          clear hA1 hB1 fw fr
          go_upto_region 6 with fail
          refine r6lt x1 y1 lenX lenY hi hk pa pb hpq ?_
          intro t30 t31 t32 t33 t34 t35 t36 t37 t38 t39 t40 t41 t42 t43 t44 t45 t46 t47 t48 t49 t50 t51 t52 t53 nq
          go_upto_if 54 with fail
          refine wp_cond_true (by rfl) ?_
          refine evA (W := wr.drewN nq) (sb := sb) (by_ := by_) (nr := nr) (ra := ra) x1 pa hi lenX pn hn oc k2 y0 yb c1 c3 z1 z3 ly ?_ ?_
          · intro e2 t16 t55 t56 t57 t58 t59 t60 t61 t62 t63 t64 t65 t66 t67 t68 t69 t70 t71 t72 t73 t74 t75 t76 t77 t78 t79 t80 t81 t82 t83 t84 t85 t86 t87 t88 t89 t90 t91 t92 t93 t94 t95 t96
            have F := hide (FW.out e2)
            have SS := hide (S0.out nq)
            clear FW FRD GA GB S1 S2 S0 FIN
            go_wp2
            go_roundw
            case rel => (repeat apply Exists.intro); exact ⟨⟨aR, bR, bW, (pd || bR), wb, ls, nr, rb, ra, i + 1, k, p + 1, rfl, rfl, rfl, rfl, rfl, by simp, rfl, HA1.out, HB1.out, pn, F.out, SS.out⟩, rfl⟩
            case measure => simp [intOf]; omega
          · intro e2 t16 t55 t56 t57 t58 t59 t60 t61 t62 t63 t64 t65 t66 t67 t68 t69 t70 t71 t72 t73 t74 t75 t76 t77 t78 t79 t80 t81 t82 t83 t84 t85 t86 t87 t88 t89 t90 t91 t92 t93 t94 t95 t96
            have F := hide (FRD.out e2)
            have SS := hide (S1.out (nr || (wb && decide (p < sb))) (ra || (bW && decide (p < sb))) nq)
            clear FW FRD GA GB S1 S2 S0 FIN
            go_wp2
            go_roundw
            case rel => (repeat apply Exists.intro); exact ⟨⟨true, bR, bW, pd, false, ls, _, rb, _, i + 1, k, p + 1, rfl, rfl, rfl, rfl, rfl, by simp, rfl, HA1.out, HB1.out, pn, F.out, SS.out⟩, rfl⟩
            case measure => simp [intOf]; omega
        · have hpq' : ¬ (p : Int) < (q : Int) := by omega
          have hne : q ≠ p := fun e => ND.out p (List.mem_of_getElem? HP.out) (by rw [← e]; exact List.mem_of_getElem? HQ.out)
          obtain ⟨kk, k2, pn, oc, hA1, hB1, fw, fr⟩ := GB.out q HQ.out (fun x hx h => by have := asc_ge HASX.out HP.out x hx h; omega)
          have HA1 := hide hA1
          have HB1 := hide hB1
          have FW := hide fw
          have FRD := hide fr
          clear hA1 hB1 fw fr
          go_upto_region 6 with fail
          refine r6ge x1 y1 lenX lenY hi hk pa pb hpq ?_
          intro t30 t31 t32 t33 t34 t35 t36 t37 t38 t39 t40 t41 t42 t43 t44 t45 t46 t47 t48 t49 t50 t51 t52 t53 nq
          go_upto_region 15 with fail
          refine evB (W := wr.drewN nq) (ls := ls) (rb := rb) (by assumption) y1 pb hk lenY pn hn oc k2 c0 c2 z0 z2 ?_ ?_
          · intro e2 t97 t98 t99 t100 t101 t102 t103 t104 t105 t106 t107 t108 t109 t110 t111 t112 t113 t114 t115 t116 t117 t118 t119 t120 t121 t122 t123 t124 t125
            have F := hide (FRD.out e2)
            have SS := hide (S0.out nq)
            clear FW FRD GA GB S1 S2 S0 FIN
            go_wp2
            go_roundw
            case rel => (repeat apply Exists.intro); exact ⟨⟨aR, true, bW, false, wb, ls, nr, rb, ra, i, k + 1, q + 1, rfl, rfl, rfl, rfl, rfl, rfl, by simp, HA1.out, HB1.out, pn, F.out, SS.out⟩, rfl⟩
            case measure => simp [intOf]; omega
          · intro e2 t97 t98 t99 t100 t101 t102 t103 t104 t105 t106 t107 t108 t109 t110 t111 t112 t113 t114 t115 t116 t117 t118 t119 t120 t121 t122 t123 t124 t125
            have F := hide (FW.out e2)
            have SS := hide (S2.out (ls || pd) (rb || aR) nq)
            clear FW FRD GA GB S1 S2 S0 FIN
            go_wp2
            go_roundw
            case rel => (repeat apply Exists.intro); exact ⟨⟨aR, bR, true, pd, (wb || aR), _, nr, _, ra, i, k + 1, q + 1, rfl, rfl, rfl, rfl, rfl, rfl, by simp, HA1.out, HB1.out, pn, F.out, SS.out⟩, rfl⟩
            case measure => simp [intOf]; omega
      · have hk' : ¬ (k : Int) < (nB : Int) := by omega
        obtain rfl : k = nB := by omega
        obtain ⟨kk, k2, pn, oc, hA1, hB1, fw, fr⟩ := GA.out p HP.out (fun x hx h => by have := HNB.out; omega)
        have HA1 := hide hA1
        have HB1 := hide hB1
        have FW := hide fw
        have FRD := hide fr
        clear hA1 hB1 fw fr
        go_upto_region 6 with fail
        refine r6end x1 y1 lenX lenY rfl ?_
        intro t30 t31 t32 t33 t34 t35 t36 t37 t38 t39 t40 t41 t42 t43 t44 t45 t46 t47 t48 t49 t50 t51 t52 t53 nq
        go_upto_if 54 with fail
        refine wp_cond_true (by rfl) ?_
        refine evA (W := wr.drewN nq) (sb := sb) (by_ := by_) (nr := nr) (ra := ra) x1 pa hi lenX pn hn oc k2 y0 yb c1 c3 z1 z3 ly ?_ ?_
        · intro e2 t16 t55 t56 t57 t58 t59 t60 t61 t62 t63 t64 t65 t66 t67 t68 t69 t70 t71 t72 t73 t74 t75 t76 t77 t78 t79 t80 t81 t82 t83 t84 t85 t86 t87 t88 t89 t90 t91 t92 t93 t94 t95 t96
          have F := hide (FW.out e2)
          have SS := hide (S0.out nq)
          clear FW FRD GA GB S1 S2 S0 FIN
          go_wp2
          go_roundw
          case rel => (repeat apply Exists.intro); exact ⟨⟨aR, bR, bW, (pd || bR), wb, ls, nr, rb, ra, i + 1, k, p + 1, rfl, rfl, rfl, rfl, rfl, by simp, rfl, HA1.out, HB1.out, pn, F.out, SS.out⟩, rfl⟩
          case measure => simp [intOf]; omega
        · intro e2 t16 t55 t56 t57 t58 t59 t60 t61 t62 t63 t64 t65 t66 t67 t68 t69 t70 t71 t72 t73 t74 t75 t76 t77 t78 t79 t80 t81 t82 t83 t84 t85 t86 t87 t88 t89 t90 t91 t92 t93 t94 t95 t96
          have F := hide (FRD.out e2)
          have SS := hide (S1.out (nr || (wb && decide (p < sb))) (ra || (bW && decide (p < sb))) nq)
          clear FW FRD GA GB S1 S2 S0 FIN
          go_wp2
          go_roundw
          case rel => (repeat apply Exists.intro); exact ⟨⟨true, bR, bW, pd, false, ls, _, rb, _, i + 1, k, p + 1, rfl, rfl, rfl, rfl, rfl, by simp, rfl, HA1.out, HB1.out, pn, F.out, SS.out⟩, rfl⟩
          case measure => simp [intOf]; omega
    · have hi' : ¬ (i : Int) < (nA : Int) := by omega
      by_cases hk : k < nB
      · have hk' : (k : Int) < (nB : Int) := by omega
        obtain ⟨q, hq⟩ : ∃ q, B[k]? = some q := ⟨_, List.getElem?_eq_getElem (by rw [HNB.out]; exact hk)⟩
        have pb := HPY.out k q hq
        have HQ := hide hq
        clear hq
        obtain ⟨kk, k2, pn, oc, hA1, hB1, fw, fr⟩ := GB.out q HQ.out (fun x hx h => by have := HNA.out; omega)
        have HA1 := hide hA1
        have HB1 := hide hB1
        have FW := hide fw
        have FRD := hide fr
        clear hA1 hB1 fw fr
        go_upto_region 6 with fail
        refine r6no x1 y1 lenX lenY hi hk ?_
        intro t30 t31 t32 t33 t34 t35 t36 t37 t38 t39 t40 t41 t42 t43 t44 t45 t46 t47 t48 t49 t50 t51 t52 t53 nq
        go_upto_region 15 with fail
        refine evB (W := wr.drewN nq) (ls := ls) (rb := rb) (by assumption) y1 pb hk lenY pn hn oc k2 c0 c2 z0 z2 ?_ ?_
        · intro e2 t97 t98 t99 t100 t101 t102 t103 t104 t105 t106 t107 t108 t109 t110 t111 t112 t113 t114 t115 t116 t117 t118 t119 t120 t121 t122 t123 t124 t125
          have F := hide (FRD.out e2)
          have SS := hide (S0.out nq)
          clear FW FRD GA GB S1 S2 S0 FIN
          go_wp2
          go_roundw
          case rel => (repeat apply Exists.intro); exact ⟨⟨aR, true, bW, false, wb, ls, nr, rb, ra, i, k + 1, q + 1, rfl, rfl, rfl, rfl, rfl, rfl, by simp, HA1.out, HB1.out, pn, F.out, SS.out⟩, rfl⟩
          case measure => simp [intOf]; omega
        · intro e2 t97 t98 t99 t100 t101 t102 t103 t104 t105 t106 t107 t108 t109 t110 t111 t112 t113 t114 t115 t116 t117 t118 t119 t120 t121 t122 t123 t124 t125
          have F := hide (FW.out e2)
          have SS := hide (S2.out (ls || pd) (rb || aR) nq)
          clear FW FRD GA GB S1 S2 S0 FIN
          go_wp2
          go_roundw
          case rel => (repeat apply Exists.intro); exact ⟨⟨aR, bR, true, pd, (wb || aR), _, nr, _, ra, i, k + 1, q + 1, rfl, rfl, rfl, rfl, rfl, rfl, by simp, HA1.out, HB1.out, pn, F.out, SS.out⟩, rfl⟩
          case measure => simp [intOf]; omega
      · have hk' : ¬ (k : Int) < (nB : Int) := by omega
        have F := hide (FIN.out (by have := HNA.out; omega) (by have := HNB.out; omega))
        have F2 := hide (F.out _ (below_set' (below_set' (below_set' (below_set' (Below.refl X wr) (show X ≤ X + 1 + 1 by omega) 0 (.bool ls)) (show X ≤ X + 1 + 1 by omega) 1 (.bool nr)) (show X ≤ X + 1 + 1 by omega) 2 (.bool rb)) (show X ≤ X + 1 + 1 by omega) 3 (.bool ra)))
        clear GA GB S1 S2 S0 FIN F
        go_wp2
        (try simp only [Exit.inBlock, Exit.then])
        refine bodyPost_ret (v := .agg (flC ls nr rb ra)) ?_ rfl F2.out
        rw [results_cell_one rfl]
        go_simp
end Go.Proofs.Ybulkaggi.BM

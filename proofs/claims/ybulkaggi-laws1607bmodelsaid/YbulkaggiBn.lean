import Derived.Test.YbulkaggiBm
import Derived.Test.YbulkaggiDc
namespace Go.Proofs.Ybulkaggi.BM
open Go.RowKit Go.Proofs.Ybulkaggi Go.Sort Go.Shelf Go.Lib
open Go.Proofs.Ybulkaggi.CE (hlt tag_ne own_tag own_keep size_set grown_alloc grown_drewN grown_cell grown_none grown_setCells info_at)
set_option linter.unusedVariables false
set_option maxRecDepth 100000

/-! ### What overlapping does, plainly -/
def ovS (f l : Nat → Nat) (st : List Sg × List (Nat × Nat)) (r : Sg) : List Sg × List (Nat × Nat) :=
  (st.1.filter (fun o => !decide (l o.1 < f r.1)) ++ [r], st.2 ++ (st.1.filter (fun o => !decide (l o.1 < f r.1))).flatMap (fun o => [(o.1, r.1), (r.1, o.1)]))
def ovK (f l : Nat → Nat) (R : List Sg) (k : Nat) : List Sg × List (Nat × Nat) := (R.take k).foldl (ovS f l) ([], [])
theorem ovK_succ (f l : Nat → Nat) (R : List Sg) (k : Nat) (h : k < R.length) : ovK f l R (k + 1) = ovS f l (ovK f l R k) R[k] := by
  unfold ovK
  rw [List.take_succ_eq_append_getElem h, List.foldl_append]
  rfl
theorem two_len {α : Type} (f : α → Nat × Nat) (g : α → Nat × Nat) (A : List α) : (A.flatMap (fun o => [f o, g o])).length = 2 * A.length := by
  induction A with
  | nil => rfl
  | cons x A ih => rw [List.flatMap_cons, List.length_append, ih]; simp; omega
theorem ovK_inv (f l : Nat → Nat) (R : List Sg) (hR : R.length ≤ 4) : ∀ k, k ≤ R.length → (∀ o ∈ (ovK f l R k).1, o ∈ R.take k) ∧ (ovK f l R k).1.length ≤ k ∧ (ovK f l R k).2.length ≤ 8 * k
  | 0, _ => ⟨by simp [ovK], by simp [ovK], by simp [ovK]⟩
  | k + 1, h => by
    obtain ⟨h1, h2, h3⟩ := ovK_inv f l R hR k (by omega)
    rw [ovK_succ f l R k (by omega)]
    have hf : ((ovK f l R k).1.filter (fun o => !decide (l o.1 < f (R[k]'(by omega)).1))).length ≤ k := Nat.le_trans (List.length_filter_le ..) h2
    refine ⟨fun o ho => ?_, ?_, ?_⟩
    · rw [List.take_succ_eq_append_getElem (by omega)]
      rcases List.mem_append.1 ho with ho | ho
      · exact List.mem_append_left _ (h1 o (List.mem_filter.1 ho).1)
      · exact List.mem_append_right _ ho
    · unfold ovS
      simp only [List.length_append, List.length_singleton]
      omega
    · unfold ovS
      simp only [List.length_append, two_len]
      omega

/-! ### The lists, by the pairs visited -/
abbrev DT : Type := List (T3 × Nat)
def fD (M : Md) (D : DT) : List An2 := D.flatMap fun d => ad (M.ls d.1) (an2 0 d.1.1 d.1.2.1 (itS d.1.2.2) d.2) ++ ad (M.nr d.1) (an2 1 d.1.1 d.1.2.1 (itS d.1.2.2) d.2)
def hf (t : T3) : H := ((t.1 : Int), (t.2.1 : Int), itS t.2.2)
def bD (M : Md) (D : DT) : List H := D.flatMap fun d => ad (M.rb d.1) (hf d.1)
def aD (M : Md) (D : DT) : List H := D.flatMap fun d => ad (M.ra d.1) (hf d.1)
theorem len1 {α β : Type} (f : α → List β) (m : Nat) (h : ∀ x, (f x).length ≤ m) (D : List α) : (D.flatMap f).length ≤ m * D.length := by
  induction D with
  | nil => simp
  | cons x D ih =>
    have := h x
    rw [List.flatMap_cons, List.length_append, List.length_cons, Nat.mul_add]
    omega
theorem fD_len (M : Md) (D : DT) : (fD M D).length ≤ 2 * D.length := len1 _ 2 (fun d => by
  have := ad_len (M.ls d.1) (an2 0 d.1.1 d.1.2.1 (itS d.1.2.2) d.2)
  have := ad_len (M.nr d.1) (an2 1 d.1.1 d.1.2.1 (itS d.1.2.2) d.2)
  simp only [List.length_append]
  omega) D
theorem bD_len (M : Md) (D : DT) : (bD M D).length ≤ 1 * D.length := len1 _ 1 (fun d => ad_len _ _) D
theorem aD_len (M : Md) (D : DT) : (aD M D).length ≤ 1 * D.length := len1 _ 1 (fun d => ad_len _ _) D
def OSt (N : Nat) (w : World) (X : Bx) (M : Md) (D : DT) (wr : World) : Prop := FT N w wr ∧ ∃ vf vb va, Ps N wr X (fD M D) (bD M D) (aD M D) vf vb va
structure OC (w : World) (g n c gi j : Nat) (X : Bx) (M : Md) (R : List Sg) (mk : Sg → RunV) : Prop where
  ops : OpsAt w g M.L
  gl : g < w.heap.size
  run : ∀ s ∈ R, RunAt w M.L j (mk s) s.1 (M.f s.1) (M.l s.1) (M.s s.1)
  pb : ∀ s ∈ R, ∃ o, w.heap[(mk s).g]? = some o ∧ Tk o
  o : w.heap[X.o]? = some (.cells #[.slice (some ⟨g, 0, none⟩) n c] 39 (0, 0))
  nn : w.heap[X.n]? = some (.cells #[.slice (some ⟨gi, 0, none⟩) 1 1] 30 (0, 0))
  gi : w.heap[gi]? = some (.cells #[.string (itS j)] 9 (0, 0))
  i : w.heap[X.i]? = some (.cells #[.string (itS j)] 9 (0, 0))
theorem OC.keep {N : Nat} {w w' : World} {g n c gi j : Nat} {X : Bx} {M : Md} {R : List Sg} {mk : Sg → RunV} (h : OC w g n c gi j X M R mk) (f : FT N w w') (hg : g < N) : OC w' g n c gi j X M R mk := by
  refine ⟨h.ops.keep (f.bel.block g hg), Nat.lt_of_lt_of_le h.gl f.bel.size, fun s hs => ?_, fun s hs => ?_, f.cells h.o (by decide), f.cells h.nn (by decide), f.cells h.gi (by decide), f.cells h.i (by decide)⟩
  · obtain ⟨o, h1, h2⟩ := h.pb s hs
    exact (h.run s hs).keep (f.same (h.run s hs).blk (by decide)) ((f.keep _ _ h1 h2).trans h1.symm) f.bel.size
  · obtain ⟨o, h1, h2⟩ := h.pb s hs
    exact ⟨o, f.keep _ _ h1 h2, h2⟩
theorem Ps.turn {N : Nat} {w w' : World} {X : Bx} {fl : List An2} {bl al : List H} {vf vb va : Value} (h : Ps N w X fl bl al vf vb va) (e : ∀ (k : Nat) (cs : Array Value) (t : TypeId), w.heap[k]? = some (.cells cs t (0, 0)) → t ≠ 94 → w'.heap[k]? = some (.cells cs t (0, 0))) : Ps N w' X fl bl al vf vb va := by
  have r : ∀ {t : TypeId} {s n : Nat} {v : Value} {xs : List Value}, w.ownsRow N t s v n xs → t ≠ 94 → w'.ownsRow N t s v n xs := fun h ht => own_keep h (fun b hb => by
    obtain ⟨cs, hc⟩ := own_tag h hb
    exact (e _ _ _ hc ht).trans hc.symm)
  exact ⟨e _ _ _ h.hf (by decide), e _ _ _ h.hb (by decide), e _ _ _ h.ha (by decide), h.nba, r h.rf (by decide), r h.rb (by decide), r h.ra (by decide), h.nr, fun x hx => ⟨e _ _ _ (h.it x hx).1 (by decide), (h.it x hx).2⟩, h.lf, h.lb, h.la⟩
theorem OSt.size {N : Nat} {w wr : World} {X : Bx} {M : Md} {D : DT} (h : OSt N w X M D wr) : N ≤ wr.heap.size ∧ w.heap.size ≤ wr.heap.size := by
  obtain ⟨h1, vf, vb, va, h2⟩ := h
  exact ⟨Nat.le_of_lt (Nat.lt_of_le_of_lt h2.lf (hlt h2.hf)), h1.bel.size⟩
theorem OSt.turn {N : Nat} {w wr w' : World} {X : Bx} {M : Md} {D : DT} (h : OSt N w X M D wr) (hN : N ≤ w.heap.size) {r : Option Nat} (hr : ∀ ga, r = some ga → w.heap.size ≤ ga ∧ ∃ cs, wr.heap[ga]? = some (.cells cs 94 (0, 0))) (hg : wr.grownBy w' r) : OSt N w X M D w' := by
  obtain ⟨h1, vf, vb, va, h2⟩ := h
  refine ⟨⟨⟨hg.os.trans h1.bel.os, hg.tape.trans h1.bel.tape, hg.output.trans h1.bel.output, Nat.le_trans h1.bel.size hg.size, fun i hi => ?_⟩, fun k o hk ht => ?_⟩, vf, vb, va, h2.turn fun k cs t hk ht => ?_⟩
  · have := h1.bel.size
    exact (hg.block i (by omega) (fun e => by have := (hr i e.symm).1; omega)).trans (h1.bel.block i hi)
  · have := h1.bel.size
    have := hlt hk
    exact (hg.block k (by omega) (fun e => by have := (hr k e.symm).1; omega)).trans (h1.keep k o hk ht)
  · refine (hg.block k (hlt hk) (fun e => ?_)).trans hk
    obtain ⟨_, cs', hc⟩ := hr k e.symm
    rw [hk] at hc
    cases hc
    exact ht rfl
theorem OSt.grown {N : Nat} {w wr w' : World} {X : Bx} {M : Md} {D : DT} (h : OSt N w X M D wr) (hN : N ≤ w.heap.size) (hg : wr.grownBy w' none) : OSt N w X M D w' := h.turn hN (fun _ e => by cases e) hg
theorem OSt.via {N : Nat} {w wr w' : World} {X : Bx} {M : Md} {D : DT} (h : OSt N w X M D wr) {D' : DT} (h' : OSt N wr X M D' w') : OSt N w X M D' w' := ⟨h.1.trans h'.1, h'.2⟩

theorem vis_call (N g n c gi j : Nat) (X : Bx) (M : Md) (R : List Sg) (mk : Sg → RunV) (w : World) (D : DT) (hn : n ≤ 256) (hl : M.L.length = n) (hgN : N ≤ gi) (hc : OC w g n c gi j X M R mk) (hS : OSt N w X M D w) (hD : D.length ≤ 400) (x y : Sg) (hx : x ∈ R) (hy : y ∈ R) (hne : x.1 ≠ y.1) :
    Calls Yba.prog 32 #[(mk x).val, (mk y).val, Pp X.o, Pp X.f, Pp X.n, Pp X.b, Pp X.i, Pp X.a] w (fun e w' => e = .returned (.tuple #[]) ∧ OSt N w X M (D ++ [((x.1, y.1, j), gi)]) w') := by
  obtain ⟨h1, vf, vb, va, h2⟩ := hS
  have l1 := fD_len M D
  have l2 := bD_len M D
  have l3 := aD_len M D
  refine (visit_any N g n c gi M.L w X (fD M D) (bD M D) (aD M D) vf vb va (itS j) (mk x) (mk y) j x.1 (M.f x.1) (M.l x.1) (M.s x.1) y.1 (M.f y.1) (M.l y.1) (M.s y.1) hn hl hc.ops hc.gl (hc.run x hx) (hc.run y hy) hne h2 (by omega) (by omega) (by omega) hc.o hc.nn hc.gi hgN hc.i).mono ?_
  rintro e w' ⟨ls, nr, rb, ra, vf', vb', va', he, q1, q2, q3, q4, p1, p2⟩
  have e1 : ls = M.ls (x.1, y.1, j) := by rw [Bool.eq_iff_iff, q1, Md.ls_iff]; rfl
  have e2 : nr = M.nr (x.1, y.1, j) := by rw [Bool.eq_iff_iff, q2, Md.nr_iff]; rfl
  have e3 : rb = M.rb (x.1, y.1, j) := by rw [Bool.eq_iff_iff, q3, Md.rb_iff]; rfl
  have e4 : ra = M.ra (x.1, y.1, j) := by rw [Bool.eq_iff_iff, q4, Md.ra_iff]; rfl
  refine ⟨he, p2, vf', vb', va', ?_⟩
  have f1 : fD M (D ++ [((x.1, y.1, j), gi)]) = fD M D ++ ad ls (an2 0 x.1 y.1 (itS j) gi) ++ ad nr (an2 1 x.1 y.1 (itS j) gi) := by
    rw [e1, e2]; unfold fD; rw [List.flatMap_append]; simp
  have f2 : bD M (D ++ [((x.1, y.1, j), gi)]) = bD M D ++ ad rb ((x.1 : Int), (y.1 : Int), itS j) := by
    rw [e3]; unfold bD; rw [List.flatMap_append]; simp [hf]
  have f3 : aD M (D ++ [((x.1, y.1, j), gi)]) = aD M D ++ ad ra ((x.1 : Int), (y.1 : Int), itS j) := by
    rw [e4]; unfold aD; rw [List.flatMap_append]; simp [hf]
  rw [f1, f2, f3]
  exact p1
end Go.Proofs.Ybulkaggi.BM

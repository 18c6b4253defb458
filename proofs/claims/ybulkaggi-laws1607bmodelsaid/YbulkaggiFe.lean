import Derived.Test.YbulkaggiFd
namespace Go.Proofs.Ybulkaggi.BM
open Go.RowKit Go.Proofs.Ybulkaggi
set_option linter.unusedVariables false
set_option maxRecDepth 100000

theorem perm_flat {α β : Type} {f g : α → List β} : ∀ (l : List α), (∀ t ∈ l, (f t).Perm (g t)) → (l.flatMap f).Perm (l.flatMap g)
  | [], _ => List.Perm.refl _
  | x :: l, h => by
    rw [List.flatMap_cons, List.flatMap_cons]
    exact (h x (List.mem_cons_self ..)).append (perm_flat l fun t ht => h t (List.mem_cons_of_mem _ ht))
theorem hit_iff {x y i x' y' j : Nat} (hi : i < 3) (hj : j < 3) : hit (hf (x, y, i)) (hf (x', y', j)) = true ↔ x' = x ∧ y' = y ∧ i ≠ j := by
  unfold hit same other hf
  rw [Bool.and_eq_true, decide_eq_true_eq, Bool.not_eq_true', beq_eq_false_iff_ne]
  simp only
  rw [itS_ne hi hj]
  constructor
  · rintro ⟨⟨h1, h2⟩, h3⟩
    exact ⟨by omega, by omega, h3⟩
  · rintro ⟨h1, h2, h3⟩
    exact ⟨⟨by omega, by omega⟩, h3⟩
theorem ph_law (bf af : T3 → Bool) : ((prs ((allQ.filter bf).map hf) ((allQ.filter af).map hf)).map keyD2).Perm (kW bf af) := by
  rw [kW_flat]
  unfold prs
  rw [List.map_flatMap, List.flatMap_map, filter_flat]
  refine perm_flat allQ (fun t ht => ?_)
  obtain ⟨x, y, i⟩ := t
  obtain ⟨b1, b2, b3, b4, b5⟩ := (mem_allQ _).1 ht
  simp only at b1 b2 b3 b4 b5
  have e2 : (List.range 3).flatMap (k2 bf af x y i) = ((List.range 3).filter (fun j => !decide (i = j) && bf (x, y, i) && af (x, y, j))).map (fun j => ((2, (x : Int), (y : Int), [itS i, itS j]) : Key)) := ad_flat _ _ _
  simp only
  rw [e2]
  by_cases hb : bf (x, y, i) = true
  · rw [if_pos hb]
    simp only [hb, Bool.and_true]
    rw [List.filter_map, List.filter_filter, List.map_map, List.map_map]
    have hp : (allQ.filter (fun t' => (hit (hf (x, y, i)) ∘ hf) t' && af t')).Perm (((List.range 3).filter (fun j => !decide (i = j) && af (x, y, j))).map (fun j => ((x, y, j) : T3))) := by
      refine (List.perm_ext_iff_of_nodup (List.Nodup.sublist (List.filter_sublist ..) allQ_nd) ?_).2 (fun t' => ?_)
      · rw [List.nodup_iff_pairwise_ne, List.pairwise_map]
        refine List.pairwise_iff_getElem.2 fun p q hp hq hpq e => ?_
        have nd : ((List.range 3).filter (fun j => !decide (i = j) && af (x, y, j))).Nodup := List.Nodup.sublist (List.filter_sublist ..) List.nodup_range
        refine (List.pairwise_iff_getElem.1 nd p q hp hq hpq) ?_
        simp only [Prod.mk.injEq, true_and] at e
        exact e
      · obtain ⟨x', y', j⟩ := t'
        rw [List.mem_filter, mem_allQ, List.mem_map]
        constructor
        · rintro ⟨⟨c1, c2, c3, c4, c5⟩, c6⟩
          simp only at c5
          rw [Bool.and_eq_true] at c6
          obtain ⟨d1, d2, d3⟩ := (hit_iff b5 c5).1 c6.1
          subst d1
          subst d2
          refine ⟨j, List.mem_filter.2 ⟨List.mem_range.2 c5, ?_⟩, rfl⟩
          rw [c6.2]
          simp [d3]
        · rintro ⟨j', hj', e⟩
          simp only [Prod.mk.injEq] at e
          obtain ⟨rfl, rfl, rfl⟩ := e
          obtain ⟨d1, d2⟩ := List.mem_filter.1 hj'
          have hj3 := List.mem_range.1 d1
          rw [Bool.and_eq_true] at d2
          have d3 : i ≠ j' := by simpa using d2.1
          refine ⟨⟨b1, b2, b3, b4, hj3⟩, ?_⟩
          rw [Bool.and_eq_true]
          exact ⟨(hit_iff b5 hj3).2 ⟨rfl, rfl, d3⟩, d2.2⟩
    have h2 := hp.map (keyD2 ∘ mkD (hf (x, y, i)) ∘ hf)
    rw [List.map_map] at h2
    exact h2
  · rw [if_neg hb]
    have e3 : (List.range 3).filter (fun j => !decide (i = j) && bf (x, y, i) && af (x, y, j)) = [] := by
      rw [List.filter_eq_nil_iff]
      intro j _
      simp [hb]
    rw [e3]
    exact List.Perm.refl _
theorem bD_eq (M : Md) (D : DT) : bD M D = ((D.map (·.1)).filter M.rb).map hf := by
  rw [← ad_flat, List.flatMap_map]
  rfl
theorem aD_eq (M : Md) (D : DT) : aD M D = ((D.map (·.1)).filter M.ra).map hf := by
  rw [← ad_flat, List.flatMap_map]
  rfl
theorem plain_law {L : List O3} {f l a : Nat → Nat} {M : Md} {D : DT} (ok : ∀ i (h : i < L.length), OkO L[i]) (sm : Same L f l a M) (nd : (D.map (·.1)).Nodup) (mem : ∀ t, t ∈ D.map (·.1) ↔ (PM L f l a).vis t = true) :
    ((D.map (·.1)).flatMap (PM L f l a).k1 ++ (prs (bD (PM L f l a) D) (aD (PM L f l a) D)).map keyD2).Perm (allT.flatMap M.k0 ++ kW (M.bf allT) (M.af allT)) := by
  have bd : ∀ t, (PM L f l a).vis t = true → 1 ≤ t.1 ∧ t.1 ≤ 4 ∧ 1 ≤ t.2.1 ∧ t.2.1 ≤ 4 ∧ t.2.2 < 3 := fun t h => by
    have := vis_bd ok h
    omega
  have pT : (D.map (·.1)).Perm (allT.filter (PM L f l a).vis) := (List.perm_ext_iff_of_nodup nd (List.Nodup.sublist (List.filter_sublist ..) allT_nd)).2 (fun t => by
    rw [mem, List.mem_filter, mem_allT]
    exact ⟨fun h => ⟨bd t h, h⟩, fun h => h.2⟩)
  have pQ : (D.map (·.1)).Perm (allQ.filter (PM L f l a).vis) := (List.perm_ext_iff_of_nodup nd (List.Nodup.sublist (List.filter_sublist ..) allQ_nd)).2 (fun t => by
    rw [mem, List.mem_filter, mem_allQ]
    exact ⟨fun h => ⟨bd t h, h⟩, fun h => h.2⟩)
  refine List.Perm.append ?_ ?_
  · refine (pT.flatMap_right _).trans ?_
    rw [filter_flat]
    refine perm_flat allT (fun t ht => ?_)
    obtain ⟨_, b2, _, b4, _⟩ := (mem_allT t).1 ht
    unfold Md.k0
    rw [sm.vis t b2 b4]
    by_cases e : (PM L f l a).vis t = true
    · rw [if_pos e, if_pos e, sm.k1 e]
    · rw [if_neg e, if_neg e]
  · rw [bD_eq, aD_eq]
    have cong : ∀ (p q : T3 → Bool), (∀ t, (PM L f l a).vis t = true → q t = p t) → ((D.map (·.1)).filter p).Perm (allQ.filter (fun t => decide (t ∈ allT) && M.vis t && q t)) := fun p q hpq => by
      refine (pQ.filter p).trans ?_
      rw [List.filter_filter]
      refine List.Perm.of_eq (List.filter_congr fun t ht => ?_)
      have hm := (mem_allQ t).1 ht
      rw [sm.vis t hm.2.1 hm.2.2.2.1, decide_eq_true ((mem_allT t).2 hm), Bool.true_and]
      by_cases e : (PM L f l a).vis t = true
      · rw [e, hpq t e, Bool.and_true, Bool.true_and]
      · rw [Bool.not_eq_true] at e
        rw [e, Bool.and_false, Bool.false_and]
    refine (((prs_perm ((cong _ M.rb fun t h => (sm.rb h).1).map hf) ((cong _ M.ra fun t h => (sm.rb h).2).map hf)).map keyD2).trans ?_)
    exact ph_law (M.bf allT) (M.af allT)
end Go.Proofs.Ybulkaggi.BM

import Derived.Test.YbulkaggiBo
namespace Go.Proofs.Ybulkaggi.BM
open Go.RowKit Go.Proofs.Ybulkaggi Go.Sort Go.Shelf Go.Lib
set_option linter.unusedVariables false
set_option maxRecDepth 100000

/-! ### Which pairs overlapping visits -/
structure OL (f l : Nat → Nat) (R : List Sg) (k : Nat) : Prop where
  act : ∀ o, o ∈ (ovK f l R k).1 ↔ o ∈ R.take k ∧ ∀ r ∈ R.take k, ¬ l o.1 < f r.1
  mem : ∀ x y, (x, y) ∈ (ovK f l R k).2 ↔ ∃ o ∈ R.take k, ∃ r ∈ R.take k, o.1 = x ∧ r.1 = y ∧ o.1 ≠ r.1 ∧ f o.1 ≤ l r.1 ∧ f r.1 ≤ l o.1
  nd : (ovK f l R k).2.Nodup
  nda : ((ovK f l R k).1.map (·.1)).Nodup
theorem both_mem (r : Sg) (A : List Sg) (x y : Nat) : (x, y) ∈ A.flatMap (both r) ↔ ∃ o ∈ A, (x = o.1 ∧ y = r.1) ∨ (x = r.1 ∧ y = o.1) := by
  simp only [List.mem_flatMap, both, List.mem_cons, List.not_mem_nil, or_false, Prod.mk.injEq]
theorem both_nodup (r : Sg) : ∀ (A : List Sg), (A.map (·.1)).Nodup → (∀ o ∈ A, o.1 ≠ r.1) → (A.flatMap (both r)).Nodup
  | [], _, _ => by simp
  | o :: A, h, hr => by
    rw [List.map_cons, List.nodup_cons] at h
    have ih := both_nodup r A h.2 (fun o ho => hr o (List.mem_cons_of_mem _ ho))
    have ho := hr o (List.mem_cons_self ..)
    rw [List.flatMap_cons, List.nodup_append]
    refine ⟨?_, ih, ?_⟩
    · simp only [both, List.nodup_cons, List.mem_singleton, Prod.mk.injEq, List.not_mem_nil, not_false_eq_true, List.nodup_nil, and_true]
      exact fun e => ho e.1
    · rintro ⟨a1, a2⟩ ha ⟨b1, b2⟩ hb e
      cases e
      obtain ⟨u, hu, hu2⟩ := (both_mem r A a1 a2).1 hb
      have hne : o.1 ≠ u.1 := fun e => h.1 (List.mem_map.2 ⟨u, hu, e.symm⟩)
      have hru := hr u (List.mem_cons_of_mem _ hu)
      simp only [both, List.mem_cons, Prod.mk.injEq, List.not_mem_nil, or_false] at ha
      rcases ha with ⟨e1, e2⟩ | ⟨e1, e2⟩ <;> rcases hu2 with ⟨e3, e4⟩ | ⟨e3, e4⟩ <;> omega
theorem ol_all (f l : Nat → Nat) (R : List Sg) (srt : R.Pairwise (fun a b => f a.1 ≤ f b.1)) (hfl : ∀ s ∈ R, f s.1 ≤ l s.1) (dis : (R.map (·.1)).Nodup) : ∀ k, k ≤ R.length → OL f l R k
  | 0, _ => ⟨by simp [ovK], by simp [ovK], by simp [ovK], by simp [ovK]⟩
  | k + 1, h => by
    have ih := ol_all f l R srt hfl dis k (by omega)
    have hk : k < R.length := by omega
    obtain ⟨r, hr⟩ : ∃ r, r = R[k] := ⟨_, rfl⟩
    have hrR : r ∈ R := by rw [hr]; exact List.getElem_mem _
    have hlow : ∀ o ∈ R.take k, o ∈ R ∧ f o.1 ≤ f r.1 ∧ o.1 ≠ r.1 := fun o ho => by
      obtain ⟨t, ht, rfl⟩ := List.mem_iff_getElem.1 ho
      have ht' : t < k := by simp at ht; omega
      rw [List.getElem_take]
      have h1 := List.pairwise_iff_getElem.1 srt t k (by omega) hk ht'
      have h2 := List.pairwise_iff_getElem.1 dis t k (by simp; omega) (by simp; omega) ht'
      simp only [List.getElem_map] at h2
      rw [hr]
      exact ⟨List.getElem_mem _, h1, h2⟩
    have htk : R.take (k + 1) = R.take k ++ [r] := by rw [List.take_succ_eq_append_getElem hk, hr]
    have e := ovK_succ f l R k hk
    rw [← hr] at e
    have hA : ∀ o, o ∈ (ovK f l R k).1.filter (fun o => !decide (l o.1 < f r.1)) ↔ o ∈ R.take k ∧ ¬ l o.1 < f r.1 := fun o => by
      rw [List.mem_filter, ih.act]
      simp only [Bool.not_eq_true', decide_eq_false_iff_not]
      constructor
      · rintro ⟨⟨h1, _⟩, h2⟩
        exact ⟨h1, h2⟩
      · rintro ⟨h1, h2⟩
        exact ⟨⟨h1, fun r' hr' => by have := (hlow r' hr').2.1; omega⟩, h2⟩
    have hnd : (((ovK f l R k).1.filter (fun o => !decide (l o.1 < f r.1))).map (·.1)).Nodup := List.Nodup.sublist ((List.filter_sublist ..).map _) ih.nda
    refine ⟨fun o => ?_, fun x y => ?_, ?_, ?_⟩
    · rw [e, htk]
      show o ∈ _ ++ [r] ↔ _
      rw [List.mem_append, hA, List.mem_append]
      constructor
      · rintro (⟨h1, h2⟩ | h1)
        · refine ⟨.inl h1, fun r' hr' => ?_⟩
          rcases List.mem_append.1 hr' with hr' | hr'
          · have := (hlow r' hr').2.1
            omega
          · obtain rfl := List.mem_singleton.1 hr'
            exact h2
        · obtain rfl := List.mem_singleton.1 h1
          refine ⟨.inr h1, fun r' hr' => ?_⟩
          have := hfl o hrR
          rcases List.mem_append.1 hr' with hr' | hr'
          · have := (hlow r' hr').2.1
            omega
          · obtain rfl := List.mem_singleton.1 hr'
            omega
      · rintro ⟨h1 | h1, h2⟩
        · exact .inl ⟨h1, h2 r (List.mem_append_right _ (List.mem_singleton.2 rfl))⟩
        · exact .inr h1
    · rw [e, htk]
      show (x, y) ∈ _ ++ List.flatMap (both r) _ ↔ _
      rw [List.mem_append, ih.mem, both_mem]
      constructor
      · rintro (⟨o, ho, r', hr', h1⟩ | ⟨o, ho, h1⟩)
        · exact ⟨o, List.mem_append_left _ ho, r', List.mem_append_left _ hr', h1⟩
        · obtain ⟨g1, g2⟩ := (hA o).1 ho
          obtain ⟨q1, q2, q3⟩ := hlow o g1
          have := hfl r hrR
          rcases h1 with ⟨h1, h2⟩ | ⟨h1, h2⟩
          · exact ⟨o, List.mem_append_left _ g1, r, List.mem_append_right _ (List.mem_singleton.2 rfl), h1.symm, h2.symm, q3, by omega, by omega⟩
          · exact ⟨r, List.mem_append_right _ (List.mem_singleton.2 rfl), o, List.mem_append_left _ g1, h1.symm, h2.symm, Ne.symm q3, by omega, by omega⟩
      · rintro ⟨o, ho, r', hr', h1, h2, h3, h4, h5⟩
        rcases List.mem_append.1 ho with ho1 | ho1 <;> rcases List.mem_append.1 hr' with hr1 | hr1
        · exact .inl ⟨o, ho1, r', hr1, h1, h2, h3, h4, h5⟩
        · obtain rfl := List.mem_singleton.1 hr1
          exact .inr ⟨o, (hA o).2 ⟨ho1, by omega⟩, .inl ⟨h1.symm, h2.symm⟩⟩
        · obtain rfl := List.mem_singleton.1 ho1
          exact .inr ⟨r', (hA r').2 ⟨hr1, by omega⟩, .inr ⟨h1.symm, h2.symm⟩⟩
        · obtain rfl := List.mem_singleton.1 ho1
          obtain rfl := List.mem_singleton.1 hr1
          exact absurd rfl h3
    · rw [e]
      show (_ ++ List.flatMap (both r) _ : List (Nat × Nat)).Nodup
      rw [List.nodup_append]
      refine ⟨ih.nd, both_nodup r _ hnd (fun o ho => (hlow o ((hA o).1 ho).1).2.2), ?_⟩
      rintro ⟨a1, a2⟩ ha ⟨b1, b2⟩ hb e'
      cases e'
      obtain ⟨o, ho, r', hr', h1, h2, _⟩ := (ih.mem a1 a2).1 ha
      obtain ⟨u, hu, hu2⟩ := (both_mem r _ a1 a2).1 hb
      have := (hlow o ho).2.2
      have := (hlow r' hr').2.2
      rcases hu2 with ⟨e3, e4⟩ | ⟨e3, e4⟩ <;> omega
    · rw [e]
      show ((_ ++ [r] : List Sg).map (·.1)).Nodup
      rw [List.map_append, List.nodup_append]
      refine ⟨hnd, by simp, fun a ha b hb => ?_⟩
      obtain ⟨o, ho, rfl⟩ := List.mem_map.1 ha
      simp at hb
      subst hb
      exact (hlow o ((hA o).1 ho).1).2.2
end Go.Proofs.Ybulkaggi.BM

import Derived.Test.YbulkaggiBq
import Derived.Test.YbulkaggiE8
namespace Go.Proofs.Ybulkaggi.BM
open Go.RowKit Go.Proofs.Ybulkaggi Go.Sort Go.Shelf Go.Lib
open Go.Proofs.Ybulkaggi.CE (hlt tag_ne own_tag own_keep size_set grown_alloc grown_drewN grown_cell grown_none grown_setCells info_at)
set_option linter.unusedVariables false
set_option maxRecDepth 100000

def PM (L : List O3) (f l a : Nat → Nat) : Md := ⟨L, fun t => SeenC L L.length t, f, l, a⟩
structure DOK (L : List O3) (M : Md) (P : List Nat) (lo : Nat) (D : DT) : Prop where
  nd : (D.map (·.1)).Nodup
  mem : ∀ t, t ∈ D.map (·.1) ↔ M.vis t = true ∧ ∃ i, ∃ h : i < P.length, i < lo ∧ iD L P[i] = t.2.2
theorem DOK.nil (L : List O3) (M : Md) (P : List Nat) : DOK L M P 0 [] := ⟨by simp, fun t => ⟨fun h => by simp at h, fun ⟨_, i, _, h, _⟩ => by omega⟩⟩
theorem vis_iff (L : List O3) (f l s : Nat → Nat) (a b j : Nat) : (PM L f l s).vis (a, b, j) = true ↔ a ≠ b ∧ f a ≤ l b ∧ f b ≤ l a ∧ touch L a j = true ∧ touch L b j = true := by
  have hs : ∀ {t : Nat}, touch L t j = true → Seen L L.length t := fun h => by
    obtain ⟨p, h1, h2, _⟩ := touch_iff.1 h
    rw [← h2]
    exact acc_seen h1
  have v : (PM L f l s).vis (a, b, j) = true ↔ ((PM L f l s).c1 a b = false ∧ (PM L f l s).c2 a b = false ∧ (PM L f l s).c3 a b j = false) := by
    unfold Md.vis
    cases (PM L f l s).c1 a b <;> cases (PM L f l s).c2 a b <;> cases (PM L f l s).c3 a b j <;> simp
  have k1 : (PM L f l s).c1 a b = false ↔ a ≠ b ∧ Seen L L.length a ∧ Seen L L.length b := by simp [Md.c1, PM, and_assoc, SeenC_iff]
  have k2 : (PM L f l s).c2 a b = false ↔ f a ≤ l b ∧ f b ≤ l a := by
    rw [show (PM L f l s).c2 a b = (decide (l b < f a) || decide (l a < f b)) from rfl, Bool.or_eq_false_iff]
    exact ⟨fun ⟨h1, h2⟩ => ⟨Nat.not_lt.1 (of_decide_eq_false h1), Nat.not_lt.1 (of_decide_eq_false h2)⟩, fun ⟨h1, h2⟩ => ⟨decide_eq_false (Nat.not_lt.2 h1), decide_eq_false (Nat.not_lt.2 h2)⟩⟩
  have k3 : (PM L f l s).c3 a b j = false ↔ touch L a j = true ∧ touch L b j = true := by simp [Md.c3, PM]
  rw [v, k1, k2, k3]
  exact ⟨fun ⟨⟨h1, _, _⟩, ⟨h4, h5⟩, h6, h7⟩ => ⟨h1, h4, h5, h6, h7⟩, fun ⟨h1, h4, h5, h6, h7⟩ => ⟨⟨h1, hs h6, hs h7⟩, ⟨h4, h5⟩, h6, h7⟩⟩
theorem DOK.next {L : List O3} {f l s : Nat → Nat} {P : List Nat} {lo hi j gi : Nat} {D : DT} {R : List Sg} (h : DOK L (PM L f l s) P lo D) (pf : PF L P) (it : IT1 L P lo hi j) (sg : Segs (tQ L (segQ P lo hi)) (hi - lo) (hi - lo) R)
    (srt : R.Pairwise (fun a b => f a.1 ≤ f b.1)) (hfl : ∀ t, Seen L L.length t → f t ≤ l t) : DOK L (PM L f l s) P hi (D ++ (ovK f l R R.length).2.map (trD j gi)) := by
  have rm := run_mem pf it sg
  have hle := it.le
  have hlt' := it.lt
  have hsn : ∀ s ∈ R, f s.1 ≤ l s.1 := fun s hs => hfl _ (by
    obtain ⟨p, h1, h2, _⟩ := touch_iff.1 ((rm s.1).1 ⟨s, hs, rfl⟩)
    rw [← h2]
    exact acc_seen h1)
  have ol := ol_all f l R srt hsn sg.dis R.length (Nat.le_refl _)
  rw [← show (ovK f l R R.length).2 = (ovK f l R R.length).2 from rfl]
  have em : (D ++ (ovK f l R R.length).2.map (trD j gi)).map (·.1) = D.map (·.1) ++ (ovK f l R R.length).2.map (fun p => ((p.1, p.2, j) : T3)) := by
    rw [List.map_append, List.map_map]
    rfl
  have hv : ∀ x y, (x, y) ∈ (ovK f l R R.length).2 ↔ (PM L f l s).vis (x, y, j) = true := fun x y => by
    rw [vis_iff, ol.mem, List.take_length]
    constructor
    · rintro ⟨o, ho, r, hr, rfl, rfl, h1, h2, h3⟩
      exact ⟨h1, h2, h3, (rm _).1 ⟨o, ho, rfl⟩, (rm _).1 ⟨r, hr, rfl⟩⟩
    · rintro ⟨h1, h2, h3, h4, h5⟩
      obtain ⟨o, ho, rfl⟩ := (rm _).2 h4
      obtain ⟨r, hr, rfl⟩ := (rm _).2 h5
      exact ⟨o, ho, r, hr, rfl, rfl, h1, h2, h3⟩
  refine ⟨?_, fun t => ?_⟩
  · rw [em, List.nodup_append]
    refine ⟨h.nd, ?_, ?_⟩
    · rw [List.nodup_iff_pairwise_ne, List.pairwise_map]
      refine List.pairwise_iff_getElem.2 fun i k hi' hk hik e => ?_
      refine (List.pairwise_iff_getElem.1 ol.nd i k hi' hk hik) ?_
      simp only [Prod.mk.injEq] at e
      exact Prod.ext e.1 e.2.1
    · intro a ha b hb e
      subst e
      obtain ⟨_, i, hi', h1, h2⟩ := (h.mem a).1 ha
      obtain ⟨p, hp, rfl⟩ := List.mem_map.1 hb
      exact it.out i hi' (.inl h1) h2
  · rw [em, List.mem_append, h.mem, List.mem_map]
    constructor
    · rintro (⟨h1, i, h2, h3, h4⟩ | ⟨⟨x, y⟩, hp, rfl⟩)
      · exact ⟨h1, i, h2, by omega, h4⟩
      · exact ⟨(hv x y).1 hp, lo, by omega, hlt', it.all lo (by omega) (Nat.le_refl _) hlt'⟩
    · rintro ⟨h1, i, h2, h3, h4⟩
      rcases Nat.lt_or_ge i lo with e | e
      · exact .inl ⟨h1, i, h2, e, h4⟩
      · rw [it.all i h2 e h3] at h4
        obtain ⟨x, y, z⟩ := t
        simp only at h4
        subst h4
        exact .inr ⟨(x, y), (hv x y).2 h1, rfl⟩
theorem OSt.bx {N : Nat} {w wr : World} {X : Bx} {M : Md} {D : DT} (h : OSt N w X M D wr) (o n i : Nat) : OSt N w ⟨o, X.f, n, X.b, i, X.a⟩ M D wr := by
  obtain ⟨h1, vf, vb, va, h2⟩ := h
  exact ⟨h1, vf, vb, va, h2.hf, h2.hb, h2.ha, h2.nba, h2.rf, h2.rb, h2.ra, h2.nr, h2.it, h2.lf, h2.lb, h2.la⟩
end Go.Proofs.Ybulkaggi.BM

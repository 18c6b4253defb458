import Derived.Test.YbulkaggiBp
namespace Go.Proofs.Ybulkaggi.BM
open Go.RowKit Go.Proofs.Ybulkaggi Go.Sort Go.Shelf Go.Lib
open Go.Proofs.Ybulkaggi.CE (hlt tag_ne own_tag own_keep)
set_option linter.unusedVariables false
set_option maxRecDepth 100000

/-! ### The positions, sorted -/
abbrev iD (L : List O3) (p : Nat) : Nat := (opD L p).2.2
abbrev tD (L : List O3) (p : Nat) : Nat := (opD L p).2.1
structure PF (L : List O3) (P : List Nat) : Prop where
  acc : ∀ p ∈ P, Acc L p
  all : ∀ p, Acc L p → p ∈ P
  srt : ∀ i k (hi : i < P.length) (hk : k < P.length), i < k → iD L P[i] < iD L P[k] ∨ (iD L P[i] = iD L P[k] ∧ (tD L P[i] < tD L P[k] ∨ (tD L P[i] = tD L P[k] ∧ P[i] < P[k])))
theorem cmpA_ge {L : List O3} {p q : Nat} (h : ¬ cmpA L q p < 0) (hne : p ≠ q) : iD L p < iD L q ∨ (iD L p = iD L q ∧ (tD L p < tD L q ∨ (tD L p = tD L q ∧ p < q))) := by
  unfold cmpA orI cmpI at h
  unfold iD tD
  repeat' split at h
  all_goals omega
theorem PF.of {w w' : World} {L : List O3} {v : Value} {P : List Nat} (h : ByRes w L v P w') : PF L P := by
  have nd : P.Nodup := h.perm.nodup_iff.2 (List.Nodup.sublist (List.filter_sublist ..) List.nodup_range)
  refine ⟨fun p hp => mem_accs.1 (h.perm.subset hp), fun p hp => h.perm.symm.subset (mem_accs.2 hp), fun i k hi hk hik => ?_⟩
  refine cmpA_ge (List.pairwise_iff_getElem.1 h.srt i k hi hk hik) (fun e => ?_)
  exact (List.pairwise_iff_getElem.1 nd i k hi hk hik) e
theorem acc_iff {L : List O3} {p t j : Nat} : (rdP L p t j ∨ wrP L p t j) ↔ (Acc L p ∧ tD L p = t ∧ iD L p = j) := by
  unfold Acc tD iD opD rdP wrP
  constructor
  · rintro (⟨o, h1, h2⟩ | ⟨o, h1, h2⟩)
    · obtain ⟨hp, he⟩ := List.getElem?_eq_some_iff.1 h1
      rw [getD_at hp, he]
      unfold rdB at h2
      have := of_decide_eq_true h2
      exact ⟨⟨hp, by omega⟩, this.1, this.2.1⟩
    · obtain ⟨hp, he⟩ := List.getElem?_eq_some_iff.1 h1
      rw [getD_at hp, he]
      unfold wrB at h2
      have := of_decide_eq_true h2
      exact ⟨⟨hp, by omega⟩, this.1, this.2.1⟩
  · rintro ⟨⟨hp, h1⟩, h2, h3⟩
    rw [getD_at hp] at h1 h2 h3
    have e := List.getElem?_eq_getElem hp
    by_cases e1 : L[p].1 ≤ 1
    · exact .inl ⟨_, e, decide_eq_true ⟨h2, h3, e1⟩⟩
    · exact .inr ⟨_, e, decide_eq_true ⟨h2, h3, by omega⟩⟩
theorem touch_iff {L : List O3} {t j : Nat} : touch L t j = true ↔ ∃ p, Acc L p ∧ tD L p = t ∧ iD L p = j := by
  unfold touch
  rw [List.any_eq_true]
  constructor
  · rintro ⟨o, ho, h⟩
    obtain ⟨p, hp, rfl⟩ := List.mem_iff_getElem.1 ho
    refine ⟨p, acc_iff.1 ?_⟩
    unfold accB at h
    rcases Bool.or_eq_true _ _ ▸ h with h | h
    · exact .inl ⟨_, List.getElem?_eq_getElem hp, h⟩
    · exact .inr ⟨_, List.getElem?_eq_getElem hp, h⟩
  · rintro ⟨p, h⟩
    rcases acc_iff.2 h with ⟨o, h1, h2⟩ | ⟨o, h1, h2⟩
    · exact ⟨o, List.mem_of_getElem? h1, by unfold accB; rw [h2]; rfl⟩
    · exact ⟨o, List.mem_of_getElem? h1, by unfold accB; rw [h2, Bool.or_true]⟩
theorem acc_seen {L : List O3} {p : Nat} (h : Acc L p) : Seen L L.length (tD L p) := by
  have hp : p < L.length := h.1
  clear h
  refine ⟨p, hp, L[p], List.getElem?_eq_getElem hp, ?_⟩
  unfold tD opD
  rw [getD_at hp]

/-! ### One item's positions -/
def BDR (L : List O3) (P : List Nat) (lo : Nat) : Prop := ∀ i k (hi : i < P.length) (hk : k < P.length), i < lo → lo ≤ k → iD L P[i] < iD L P[k]
structure IT1 (L : List O3) (P : List Nat) (lo hi j : Nat) : Prop where
  lt : lo < hi
  le : hi ≤ P.length
  all : ∀ i (h : i < P.length), lo ≤ i → i < hi → iD L P[i] = j
  out : ∀ i (h : i < P.length), i < lo ∨ hi ≤ i → iD L P[i] ≠ j
  nxt : BDR L P hi
theorem IT1.of {L : List O3} {P : List Nat} {lo hi j : Nat} (pf : PF L P) (hb : BDR L P lo) (h1 : lo < hi) (h2 : hi ≤ P.length) (h3 : ∀ i (h : i < P.length), lo ≤ i → i < hi → iD L P[i] = j) (h4 : ∀ h : hi < P.length, iD L P[hi] ≠ j) : IT1 L P lo hi j := by
  have hl : lo < P.length := by omega
  have hup : ∀ i (h : i < P.length), hi ≤ i → j < iD L P[i] := fun i h hi' => by
    have e1 := h3 lo hl (Nat.le_refl _) h1
    have e2 : hi < P.length := by omega
    have e3 := h4 e2
    have e4 := pf.srt lo hi hl e2 h1
    have e5 : iD L P[hi] ≤ iD L P[i] := by
      rcases Nat.lt_or_ge hi i with e | e
      · have := pf.srt hi i e2 h e
        omega
      · obtain rfl : i = hi := by omega
        exact Nat.le_refl _
    omega
  refine ⟨h1, h2, h3, fun i h hi' => ?_, fun i k hi' hk a b => ?_⟩
  · rcases hi' with e | e
    · have := hb i lo h hl e (Nat.le_refl _)
      have := h3 lo hl (Nat.le_refl _) h1
      omega
    · have := hup i h e
      omega
  · have := hup k hk b
    rcases Nat.lt_or_ge i lo with e | e
    · exact hb i k hi' hk e (by omega)
    · rw [h3 i hi' e a]
      exact this
def segQ (P : List Nat) (lo hi : Nat) : List Nat := (P.drop lo).take (hi - lo)
theorem segQ_len {P : List Nat} {lo hi : Nat} (h : lo ≤ hi) (h2 : hi ≤ P.length) : (segQ P lo hi).length = hi - lo := by simp [segQ]; omega
theorem segQ_at {P : List Nat} {lo hi i : Nat} (h2 : hi ≤ P.length) (hi' : i < hi - lo) (h3 : i < (segQ P lo hi).length) : (segQ P lo hi)[i] = P[lo + i]'(by omega) := by simp [segQ]
theorem tQ_at {L : List O3} {P : List Nat} {lo hi i : Nat} (h2 : hi ≤ P.length) (hi' : i < hi - lo) : tQ L (segQ P lo hi) i = tD L (P[lo + i]'(by omega)) := by
  have h3 : i < (segQ P lo hi).length := by rw [segQ_len (by omega) h2]; exact hi'
  unfold tQ tD
  rw [show (segQ P lo hi).getD i 0 = (segQ P lo hi)[i] by simp [List.getD, List.getElem?_eq_getElem h3], segQ_at h2 hi' h3]
theorem tQ_srt {L : List O3} {P : List Nat} {lo hi j : Nat} (pf : PF L P) (it : IT1 L P lo hi j) : ∀ i k, i ≤ k → k < hi - lo → tQ L (segQ P lo hi) i ≤ tQ L (segQ P lo hi) k := fun i k hik hk => by
  rw [tQ_at it.le (by omega), tQ_at it.le hk]
  rcases Nat.lt_or_ge i k with e | e
  · have h1 := it.le
    have e1 := pf.srt (lo + i) (lo + k) (by omega) (by omega) (by omega)
    have e2 := it.all (lo + i) (by omega) (by omega) (by omega)
    have e3 := it.all (lo + k) (by omega) (by omega) (by omega)
    omega
  · obtain rfl : i = k := by omega
    exact Nat.le_refl _
/-- A run of one item, as compare wants it. -/
theorem runAt_of {w : World} {L : List O3} {P : List Nat} {lo hi j gp cp : Nat} {tb f l a : Nat → Nat} {R : List Sg} (pf : PF L P) (it : IT1 L P lo hi j) (sg : Segs (tQ L (segQ P lo hi)) (hi - lo) (hi - lo) R)
    (hpos : ∀ i (h : i < P.length), w.cell? ⟨gp, i, none⟩ = some (.int .i64 (P[i] : Nat))) (hgp : gp < w.heap.size)
    (blk : ∀ t, Seen L L.length t → w.heap[tb t]? = some (.cells #[.int .i64 (t : Int), .int .i64 (f t : Int), .int .i64 (l t : Int), .int .i64 (a t : Int)] 99 (0, 0))) :
    ∀ s ∈ R, RunAt w L j (mkR tb gp lo cp (segQ P lo hi) s) s.1 (f s.1) (l s.1) (a s.1) := fun s hs => by
  obtain ⟨s1, s2, s3⟩ := sg.seg s hs
  have hle := it.le
  have hql := segQ_len (P := P) (lo := lo) (hi := hi) (by have := it.lt; omega) hle
  have hlen : (mkR tb gp lo cp (segQ P lo hi) s).A.length = s.2.2 - s.2.1 := mkR_len (by omega) (by omega)
  have hAt : ∀ i (h : i < (mkR tb gp lo cp (segQ P lo hi) s).A.length), (mkR tb gp lo cp (segQ P lo hi) s).A[i] = P[lo + s.2.1 + i]'(by omega) := fun i h => by
    have h' : i < s.2.2 - s.2.1 := by omega
    have e1 : (mkR tb gp lo cp (segQ P lo hi) s).A[i]? = P[lo + s.2.1 + i]? := by
      show ((((P.drop lo).take (hi - lo)).drop s.2.1).take (s.2.2 - s.2.1))[i]? = _
      rw [List.getElem?_take, if_pos h', List.getElem?_drop, List.getElem?_take, if_pos (by omega), List.getElem?_drop, Nat.add_assoc]
    rw [List.getElem?_eq_getElem h, List.getElem?_eq_getElem (by omega)] at e1
    exact Option.some.inj e1
  have htx : ∀ i (h : i < hi - lo), (tD L (P[lo + i]'(by omega)) = s.1 ↔ s.2.1 ≤ i ∧ i < s.2.2) := fun i h => by rw [← tQ_at it.le h]; exact s3 i h
  refine ⟨blk _ ?_, fun i h => ?_, fun p => ?_, ?_, hgp⟩
  · have h1 := (htx s.2.1 (by omega)).2 ⟨Nat.le_refl _, s1⟩
    rw [← h1]
    exact acc_seen (pf.acc _ (List.getElem_mem _))
  · rw [hAt i h]
    have := hpos (lo + s.2.1 + i) (by omega)
    exact this
  · rw [acc_iff]
    constructor
    · intro hp
      obtain ⟨i, h, rfl⟩ := List.mem_iff_getElem.1 hp
      rw [hAt i h]
      have h' : s.2.1 + i < hi - lo := by omega
      have e := (htx (s.2.1 + i) h').2 ⟨by omega, by omega⟩
      have e2 : lo + s.2.1 + i = lo + (s.2.1 + i) := by omega
      simp only [e2]
      exact ⟨pf.acc _ (List.getElem_mem _), e, it.all _ (by omega) (by omega) (by omega)⟩
    · rintro ⟨h1, h2, h3⟩
      obtain ⟨i, h, rfl⟩ := List.mem_iff_getElem.1 (pf.all p h1)
      have hr : lo ≤ i ∧ i < hi := by
        by_cases e : lo ≤ i ∧ i < hi
        · exact e
        · exact absurd h3 (it.out i h (by omega))
      have h5 := (htx (i - lo) (by omega)).1 (by
        have e : lo + (i - lo) = i := by omega
        simp only [e]
        exact h2)
      have h6 : i - lo - s.2.1 < (mkR tb gp lo cp (segQ P lo hi) s).A.length := by omega
      have h7 := hAt _ h6
      have e : lo + s.2.1 + (i - lo - s.2.1) = i := by omega
      simp only [e] at h7
      rw [← h7]
      exact List.getElem_mem _
  · refine List.pairwise_iff_getElem.2 fun i k h1 h2 hik => ?_
    rw [hAt i h1, hAt k h2]
    have e1 := pf.srt (lo + s.2.1 + i) (lo + s.2.1 + k) (by omega) (by omega) (by omega)
    have e2 := it.all (lo + s.2.1 + i) (by omega) (by omega) (by omega)
    have e3 := it.all (lo + s.2.1 + k) (by omega) (by omega) (by omega)
    have e4 := (htx (s.2.1 + i) (by omega)).2 ⟨by omega, by omega⟩
    have e5 := (htx (s.2.1 + k) (by omega)).2 ⟨by omega, by omega⟩
    have e6 : lo + (s.2.1 + i) = lo + s.2.1 + i := by omega
    have e7 : lo + (s.2.1 + k) = lo + s.2.1 + k := by omega
    simp only [e6] at e4
    simp only [e7] at e5
    omega
/-- Who has a run of item j. -/
theorem run_mem {L : List O3} {P : List Nat} {lo hi j : Nat} {R : List Sg} (pf : PF L P) (it : IT1 L P lo hi j) (sg : Segs (tQ L (segQ P lo hi)) (hi - lo) (hi - lo) R) (t : Nat) : (∃ s ∈ R, s.1 = t) ↔ touch L t j = true := by
  rw [touch_iff]
  have hle := it.le
  constructor
  · rintro ⟨s, hs, rfl⟩
    obtain ⟨s1, s2, s3⟩ := sg.seg s hs
    have h1 := (s3 s.2.1 (by omega)).2 ⟨Nat.le_refl _, s1⟩
    rw [tQ_at it.le (by omega)] at h1
    exact ⟨_, pf.acc _ (List.getElem_mem _), h1, it.all _ (by omega) (by omega) (by omega)⟩
  · rintro ⟨p, h1, h2, h3⟩
    obtain ⟨i, h, rfl⟩ := List.mem_iff_getElem.1 (pf.all p h1)
    have hr : lo ≤ i ∧ i < hi := by
      by_cases e : lo ≤ i ∧ i < hi
      · exact e
      · exact absurd h3 (it.out i h (by omega))
    obtain ⟨s, hs, h4⟩ := sg.cov (i - lo) (by omega)
    refine ⟨s, hs, ?_⟩
    rw [← h4, tQ_at it.le (by omega), ← h2]
    have e : lo + (i - lo) = i := by omega
    simp only [e]
end Go.Proofs.Ybulkaggi.BM

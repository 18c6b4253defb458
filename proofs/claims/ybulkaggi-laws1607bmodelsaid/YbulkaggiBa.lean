import Derived.Test.YbulkaggiB9
namespace Go.Proofs.Ybulkaggi.BM
open Go.RowKit Go.Proofs.Ybulkaggi
set_option linter.unusedVariables false
set_option maxRecDepth 100000

/-! ### Reads and writes, by position -/
def rdP (L : List O3) (p t j : Nat) : Prop := ∃ o, L[p]? = some o ∧ rdB o t j = true
def wrP (L : List O3) (p t j : Nat) : Prop := ∃ o, L[p]? = some o ∧ wrB o t j = true
theorem rd_not_wr {L : List O3} {p t t' j j' : Nat} (h : rdP L p t j) (h' : wrP L p t' j') : False := by
  obtain ⟨o, h1, h2⟩ := h
  obtain ⟨o', h3, h4⟩ := h'
  rw [h1] at h3
  cases h3
  simp only [rdB, wrB, decide_eq_true_eq] at h2 h4
  omega
theorem rd_txn {L : List O3} {p t t' j j' : Nat} (h : rdP L p t j) (h' : rdP L p t' j') : t = t' := by
  obtain ⟨o, h1, h2⟩ := h
  obtain ⟨o', h3, h4⟩ := h'
  rw [h1] at h3
  cases h3
  simp only [rdB, decide_eq_true_eq] at h2 h4
  omega
theorem wr_txn {L : List O3} {p t t' j j' : Nat} (h : wrP L p t j) (h' : wrP L p t' j') : t = t' := by
  obtain ⟨o, h1, h2⟩ := h
  obtain ⟨o', h3, h4⟩ := h'
  rw [h1] at h3
  cases h3
  simp only [wrB, decide_eq_true_eq] at h2 h4
  omega

/-! ### What one pass over a pair of runs has seen below u -/
structure Ev where
  L : List O3
  a : Nat
  b : Nat
  j : Nat
  s : Nat
def Ev.RA (E : Ev) (p : Nat) : Prop := rdP E.L p E.a E.j
def Ev.WA (E : Ev) (p : Nat) : Prop := wrP E.L p E.a E.j
def Ev.RB (E : Ev) (p : Nat) : Prop := rdP E.L p E.b E.j
def Ev.WB (E : Ev) (p : Nat) : Prop := wrP E.L p E.b E.j
def Ev.aR (E : Ev) (u : Nat) : Prop := ∃ p, p < u ∧ E.RA p
def Ev.bR (E : Ev) (u : Nat) : Prop := ∃ p, p < u ∧ E.RB p
def Ev.bW (E : Ev) (u : Nat) : Prop := ∃ p, p < u ∧ E.WB p
def Ev.pend (E : Ev) (u : Nat) : Prop := ∃ p, p < u ∧ E.WA p ∧ E.bR p ∧ ∀ q, p < q → q < u → ¬ E.RB q
def Ev.wb (E : Ev) (u : Nat) : Prop := ∃ q, q < u ∧ E.WB q ∧ E.aR q ∧ ∀ p, q < p → p < u → ¬ E.RA p
def Ev.lost (E : Ev) (u : Nat) : Prop := ∃ q, q < u ∧ E.WB q ∧ E.pend q
def Ev.non (E : Ev) (u : Nat) : Prop := ∃ p, p < u ∧ E.RA p ∧ p < E.s ∧ E.wb p
def Ev.rb (E : Ev) (u : Nat) : Prop := ∃ q, q < u ∧ E.WB q ∧ E.aR q
def Ev.ra (E : Ev) (u : Nat) : Prop := ∃ p, p < u ∧ E.RA p ∧ p < E.s ∧ E.bW p
/-- No event from u on below p. -/
def Ev.gap (E : Ev) (u p : Nat) : Prop := u ≤ p ∧ ∀ x, u ≤ x → x < p → ¬ E.RA x ∧ ¬ E.WA x ∧ ¬ E.RB x ∧ ¬ E.WB x

theorem ex_gap {P : Nat → Prop} {u p : Nat} (hu : u ≤ p) (h : ∀ x, u ≤ x → x < p → ¬ P x) : (∃ x, x < p ∧ P x) ↔ (∃ x, x < u ∧ P x) := by
  constructor
  · rintro ⟨x, h1, h2⟩
    by_cases e : x < u
    · exact ⟨x, e, h2⟩
    · exact absurd h2 (h x (by omega) h1)
  · rintro ⟨x, h1, h2⟩
    exact ⟨x, by omega, h2⟩
theorem ex_succ {P : Nat → Prop} {p : Nat} : (∃ x, x < p + 1 ∧ P x) ↔ ((∃ x, x < p ∧ P x) ∨ P p) := by
  constructor
  · rintro ⟨x, h1, h2⟩
    by_cases e : x = p
    · rw [e] at h2; exact .inr h2
    · exact .inl ⟨x, by omega, h2⟩
  · rintro (⟨x, h1, h2⟩ | h)
    · exact ⟨x, by omega, h2⟩
    · exact ⟨p, by omega, h⟩
section
variable {E : Ev} {u p : Nat}
theorem Ev.gap.aR (g : E.gap u p) : E.aR p ↔ E.aR u := ex_gap g.1 (fun x h1 h2 => (g.2 x h1 h2).1)
theorem Ev.gap.bR (g : E.gap u p) : E.bR p ↔ E.bR u := ex_gap g.1 (fun x h1 h2 => (g.2 x h1 h2).2.2.1)
theorem Ev.gap.bW (g : E.gap u p) : E.bW p ↔ E.bW u := ex_gap g.1 (fun x h1 h2 => (g.2 x h1 h2).2.2.2)
theorem Ev.gap.lost (g : E.gap u p) : E.lost p ↔ E.lost u := ex_gap g.1 (fun x h1 h2 h => (g.2 x h1 h2).2.2.2 h.1)
theorem Ev.gap.non (g : E.gap u p) : E.non p ↔ E.non u := ex_gap g.1 (fun x h1 h2 h => (g.2 x h1 h2).1 h.1)
theorem Ev.gap.rb (g : E.gap u p) : E.rb p ↔ E.rb u := ex_gap g.1 (fun x h1 h2 h => (g.2 x h1 h2).2.2.2 h.1)
theorem Ev.gap.ra (g : E.gap u p) : E.ra p ↔ E.ra u := ex_gap g.1 (fun x h1 h2 h => (g.2 x h1 h2).1 h.1)
theorem Ev.gap.pend (g : E.gap u p) : E.pend p ↔ E.pend u := by
  constructor
  · rintro ⟨x, h1, h2, h3, h4⟩
    by_cases e : x < u
    · exact ⟨x, e, h2, h3, fun q a b => h4 q a (by have := g.1; omega)⟩
    · exact absurd h2 (g.2 x (by omega) h1).2.1
  · rintro ⟨x, h1, h2, h3, h4⟩
    refine ⟨x, by have := g.1; omega, h2, h3, fun q a b => ?_⟩
    by_cases e : q < u
    · exact h4 q a e
    · exact (g.2 q (by omega) b).2.2.1
theorem Ev.gap.wb (g : E.gap u p) : E.wb p ↔ E.wb u := by
  constructor
  · rintro ⟨x, h1, h2, h3, h4⟩
    by_cases e : x < u
    · exact ⟨x, e, h2, h3, fun q a b => h4 q a (by have := g.1; omega)⟩
    · exact absurd h2 (g.2 x (by omega) h1).2.2.2
  · rintro ⟨x, h1, h2, h3, h4⟩
    refine ⟨x, by have := g.1; omega, h2, h3, fun q a b => ?_⟩
    by_cases e : q < u
    · exact h4 q a e
    · exact (g.2 q (by omega) b).1
theorem Ev.aR_succ : E.aR (p + 1) ↔ (E.aR p ∨ E.RA p) := ex_succ
theorem Ev.bR_succ : E.bR (p + 1) ↔ (E.bR p ∨ E.RB p) := ex_succ
theorem Ev.bW_succ : E.bW (p + 1) ↔ (E.bW p ∨ E.WB p) := ex_succ
theorem Ev.lost_succ : E.lost (p + 1) ↔ (E.lost p ∨ (E.WB p ∧ E.pend p)) := ex_succ
theorem Ev.non_succ : E.non (p + 1) ↔ (E.non p ∨ (E.RA p ∧ p < E.s ∧ E.wb p)) := ex_succ
theorem Ev.rb_succ : E.rb (p + 1) ↔ (E.rb p ∨ (E.WB p ∧ E.aR p)) := ex_succ
theorem Ev.ra_succ : E.ra (p + 1) ↔ (E.ra p ∨ (E.RA p ∧ p < E.s ∧ E.bW p)) := ex_succ
theorem Ev.pend_succ : E.pend (p + 1) ↔ (¬ E.RB p ∧ (E.pend p ∨ (E.WA p ∧ E.bR p))) ∨ (E.RB p ∧ E.WA p ∧ E.bR p) := by
  constructor
  · rintro ⟨x, h1, h2, h3, h4⟩
    by_cases e : x = p
    · subst e
      by_cases r : E.RB x
      · exact .inr ⟨r, h2, h3⟩
      · exact .inl ⟨r, .inr ⟨h2, h3⟩⟩
    · exact .inl ⟨h4 p (by omega) (by omega), .inl ⟨x, by omega, h2, h3, fun q a b => h4 q a (by omega)⟩⟩
  · rintro (⟨r, h | h⟩ | ⟨r, h2, h3⟩)
    · obtain ⟨x, h1, h2, h3, h4⟩ := h
      refine ⟨x, by omega, h2, h3, fun q a b => ?_⟩
      by_cases e : q = p
      · rw [e]; exact r
      · exact h4 q a (by omega)
    · exact ⟨p, by omega, h.1, h.2, fun q a b => by omega⟩
    · exact ⟨p, by omega, h2, h3, fun q a b => by omega⟩
theorem Ev.wb_succ : E.wb (p + 1) ↔ (¬ E.RA p ∧ (E.wb p ∨ (E.WB p ∧ E.aR p))) ∨ (E.RA p ∧ E.WB p ∧ E.aR p) := by
  constructor
  · rintro ⟨x, h1, h2, h3, h4⟩
    by_cases e : x = p
    · subst e
      by_cases r : E.RA x
      · exact .inr ⟨r, h2, h3⟩
      · exact .inl ⟨r, .inr ⟨h2, h3⟩⟩
    · exact .inl ⟨h4 p (by omega) (by omega), .inl ⟨x, by omega, h2, h3, fun q a b => h4 q a (by omega)⟩⟩
  · rintro (⟨r, h | h⟩ | ⟨r, h2, h3⟩)
    · obtain ⟨x, h1, h2, h3, h4⟩ := h
      refine ⟨x, by omega, h2, h3, fun q a b => ?_⟩
      by_cases e : q = p
      · rw [e]; exact r
      · exact h4 q a (by omega)
    · exact ⟨p, by omega, h.1, h.2, fun q a b => by omega⟩
    · exact ⟨p, by omega, h2, h3, fun q a b => by omega⟩
end

/-- The nine flags, at u. -/
structure Fl (E : Ev) (u : Nat) (aR bR bW pd wb ls nr rb ra : Bool) : Prop where
  aR : aR = true ↔ E.aR u
  bR : bR = true ↔ E.bR u
  bW : bW = true ↔ E.bW u
  pd : pd = true ↔ E.pend u
  wb : wb = true ↔ E.wb u
  ls : ls = true ↔ E.lost u
  nr : nr = true ↔ E.non u
  rb : rb = true ↔ E.rb u
  ra : ra = true ↔ E.ra u
theorem Fl.start (E : Ev) : Fl E 0 false false false false false false false false false := by
  refine ⟨?_, ?_, ?_, ?_, ?_, ?_, ?_, ?_, ?_⟩ <;> (simp only [Bool.false_eq_true, false_iff]; rintro ⟨x, h, _⟩; omega)
theorem Fl.gap {E : Ev} {u p : Nat} {aR bR bW pd wb ls nr rb ra : Bool} (h : Fl E u aR bR bW pd wb ls nr rb ra) (g : E.gap u p) : Fl E p aR bR bW pd wb ls nr rb ra :=
  ⟨h.aR.trans g.aR.symm, h.bR.trans g.bR.symm, h.bW.trans g.bW.symm, h.pd.trans g.pend.symm, h.wb.trans g.wb.symm, h.ls.trans g.lost.symm, h.nr.trans g.non.symm, h.rb.trans g.rb.symm, h.ra.trans g.ra.symm⟩
section
variable {E : Ev} {p : Nat} {aR bR bW pd wb ls nr rb ra : Bool}
theorem Ev.apart (hab : E.a ≠ E.b) (p : Nat) : (E.RA p → ¬ E.WA p ∧ ¬ E.RB p ∧ ¬ E.WB p) ∧ (E.WA p → ¬ E.RB p ∧ ¬ E.WB p) ∧ (E.RB p → ¬ E.WB p) :=
  ⟨fun h => ⟨fun h' => rd_not_wr h h', fun h' => hab (rd_txn h h'), fun h' => rd_not_wr h h'⟩, fun h => ⟨fun h' => rd_not_wr h' h, fun h' => hab (wr_txn h h')⟩, fun h h' => rd_not_wr h h'⟩
/-- A writes. -/
theorem Fl.wa (h : Fl E p aR bR bW pd wb ls nr rb ra) (hab : E.a ≠ E.b) (e : E.WA p) : Fl E (p + 1) aR bR bW (pd || bR) wb ls nr rb ra := by
  obtain ⟨_, h2, _⟩ := Ev.apart hab p
  obtain ⟨n1, n2⟩ := h2 e
  have n3 : ¬ E.RA p := fun x => (Ev.apart hab p).1 x |>.1 e
  refine ⟨?_, ?_, ?_, ?_, ?_, ?_, ?_, ?_, ?_⟩
  · rw [h.aR, Ev.aR_succ]; simp [n3]
  · rw [h.bR, Ev.bR_succ]; simp [n1]
  · rw [h.bW, Ev.bW_succ]; simp [n2]
  · rw [Bool.or_eq_true, h.pd, h.bR, Ev.pend_succ]; simp [n1, e]
  · rw [h.wb, Ev.wb_succ]; simp [n3, n2]
  · rw [h.ls, Ev.lost_succ]; simp [n2]
  · rw [h.nr, Ev.non_succ]; simp [n3]
  · rw [h.rb, Ev.rb_succ]; simp [n2]
  · rw [h.ra, Ev.ra_succ]; simp [n3]
/-- A reads. -/
theorem Fl.rda (h : Fl E p aR bR bW pd wb ls nr rb ra) (hab : E.a ≠ E.b) (e : E.RA p) (sn : Bool) (hs : sn = true ↔ p < E.s) : Fl E (p + 1) true bR bW pd false ls (nr || (wb && sn)) rb (ra || (bW && sn)) := by
  obtain ⟨n1, n2, n3⟩ := (Ev.apart hab p).1 e
  refine ⟨?_, ?_, ?_, ?_, ?_, ?_, ?_, ?_, ?_⟩
  · rw [Ev.aR_succ]; simp [e]
  · rw [h.bR, Ev.bR_succ]; simp [n2]
  · rw [h.bW, Ev.bW_succ]; simp [n3]
  · rw [h.pd, Ev.pend_succ]; simp [n1, n2]
  · rw [Ev.wb_succ]; simp [n3, e]
  · rw [h.ls, Ev.lost_succ]; simp [n3]
  · rw [Bool.or_eq_true, Bool.and_eq_true, h.nr, h.wb, hs, Ev.non_succ]; simp only [e, true_and]
    constructor
    · rintro (x | ⟨x, y⟩); exact .inl x; exact .inr ⟨y, x⟩
    · rintro (x | ⟨x, y⟩); exact .inl x; exact .inr ⟨y, x⟩
  · rw [h.rb, Ev.rb_succ]; simp [n3]
  · rw [Bool.or_eq_true, Bool.and_eq_true, h.ra, h.bW, hs, Ev.ra_succ]; simp only [e, true_and]
    constructor
    · rintro (x | ⟨x, y⟩); exact .inl x; exact .inr ⟨y, x⟩
    · rintro (x | ⟨x, y⟩); exact .inl x; exact .inr ⟨y, x⟩
/-- B reads. -/
theorem Fl.rdb (h : Fl E p aR bR bW pd wb ls nr rb ra) (hab : E.a ≠ E.b) (e : E.RB p) : Fl E (p + 1) aR true bW false wb ls nr rb ra := by
  have n1 : ¬ E.RA p := fun x => ((Ev.apart hab p).1 x).2.1 e
  have n2 : ¬ E.WA p := fun x => ((Ev.apart hab p).2.1 x).1 e
  have n3 : ¬ E.WB p := (Ev.apart hab p).2.2 e
  refine ⟨?_, ?_, ?_, ?_, ?_, ?_, ?_, ?_, ?_⟩
  · rw [h.aR, Ev.aR_succ]; simp [n1]
  · rw [Ev.bR_succ]; simp [e]
  · rw [h.bW, Ev.bW_succ]; simp [n3]
  · rw [Ev.pend_succ]; simp [n2, e]
  · rw [h.wb, Ev.wb_succ]; simp [n1, n3]
  · rw [h.ls, Ev.lost_succ]; simp [n3]
  · rw [h.nr, Ev.non_succ]; simp [n1]
  · rw [h.rb, Ev.rb_succ]; simp [n3]
  · rw [h.ra, Ev.ra_succ]; simp [n1]
/-- B writes. -/
theorem Fl.wrb (h : Fl E p aR bR bW pd wb ls nr rb ra) (hab : E.a ≠ E.b) (e : E.WB p) : Fl E (p + 1) aR bR true pd (wb || aR) (ls || pd) nr (rb || aR) ra := by
  have n1 : ¬ E.RA p := fun x => ((Ev.apart hab p).1 x).2.2 e
  have n2 : ¬ E.WA p := fun x => ((Ev.apart hab p).2.1 x).2 e
  have n3 : ¬ E.RB p := fun x => (Ev.apart hab p).2.2 x e
  refine ⟨?_, ?_, ?_, ?_, ?_, ?_, ?_, ?_, ?_⟩
  · rw [h.aR, Ev.aR_succ]; simp [n1]
  · rw [h.bR, Ev.bR_succ]; simp [n3]
  · rw [Ev.bW_succ]; simp [e]
  · rw [h.pd, Ev.pend_succ]; simp [n2, n3]
  · rw [Bool.or_eq_true, h.wb, h.aR, Ev.wb_succ]; simp [n1, e]
  · rw [Bool.or_eq_true, h.ls, h.pd, Ev.lost_succ]; simp [e]
  · rw [h.nr, Ev.non_succ]; simp [n1]
  · rw [Bool.or_eq_true, h.rb, h.aR, Ev.rb_succ]; simp [e]
  · rw [h.ra, Ev.ra_succ]; simp [n1]
end
end Go.Proofs.Ybulkaggi.BM

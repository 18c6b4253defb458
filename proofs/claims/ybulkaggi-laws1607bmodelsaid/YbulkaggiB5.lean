import Derived.Test.YbulkaggiB4
import Derived.Test.YbulkaggiC3
namespace Go.Proofs.Ybulkaggi.BM
open Go.RowKit Go.Proofs.Ybulkaggi Go.WideMaps Go.Maps
open Go.Proofs.Ybulkaggi.CE (ptrElem ptrElem_mk ptrElem_nil ptrElem_inv klI klI_key klI_inj keyI key3 map_keep map_at hlt tag_ne upd upd_same upd_other)
set_option linter.unusedVariables false
set_option maxRecDepth 100000

abbrev Pp (b : Nat) : Value := .pointer (some ⟨b, 0, none⟩)
/-! ### Where a transaction stands in the schedule -/
def tx (L : List O3) (p t : Nat) : Prop := ∃ o, L[p]? = some o ∧ o.2.1 = t
def ab (L : List O3) (p t : Nat) : Prop := ∃ o, L[p]? = some o ∧ o.2.1 = t ∧ o.1 = 4
def Seen (L : List O3) (i t : Nat) : Prop := ∃ p, p < i ∧ tx L p t
structure Fi (L : List O3) (i t p : Nat) : Prop where
  lt : p < i
  at_ : tx L p t
  no : ∀ q, q < p → ¬ tx L q t
structure La (L : List O3) (i t p : Nat) : Prop where
  lt : p < i
  at_ : tx L p t
  no : ∀ q, p < q → q < i → ¬ tx L q t
def Ab (L : List O3) (i t p : Nat) : Prop := (p = L.length ∧ ∀ q, q < i → ¬ ab L q t) ∨ (p < i ∧ ab L p t ∧ ∀ q, p < q → q < i → ¬ ab L q t)

theorem Fi.next {L : List O3} {i t p : Nat} (h : Fi L i t p) : Fi L (i + 1) t p := ⟨Nat.lt_succ_of_lt h.lt, h.at_, h.no⟩
theorem La.next {L : List O3} {i t p : Nat} (h : La L i t p) (hn : ¬ tx L i t) : La L (i + 1) t p := ⟨Nat.lt_succ_of_lt h.lt, h.at_, fun q h1 h2 => by
  by_cases e : q = i
  · rw [e]; exact hn
  · exact h.no q h1 (by omega)⟩
theorem La.here {L : List O3} {i t : Nat} (h : tx L i t) : La L (i + 1) t i := ⟨Nat.lt_succ_self i, h, fun q h1 h2 => by omega⟩
theorem Ab.next {L : List O3} {i t p : Nat} (h : Ab L i t p) (hn : ¬ ab L i t) : Ab L (i + 1) t p := by
  rcases h with ⟨h1, h2⟩ | ⟨h1, h2, h3⟩
  · refine .inl ⟨h1, fun q hq => ?_⟩
    by_cases e : q = i
    · rw [e]; exact hn
    · exact h2 q (by omega)
  · refine .inr ⟨Nat.lt_succ_of_lt h1, h2, fun q h4 h5 => ?_⟩
    by_cases e : q = i
    · rw [e]; exact hn
    · exact h3 q h4 (by omega)
theorem Ab.here {L : List O3} {i t : Nat} (h : ab L i t) : Ab L (i + 1) t i := .inr ⟨Nat.lt_succ_self i, h, fun q h1 h2 => by omega⟩
theorem ab_tx {L : List O3} {p t : Nat} (h : ab L p t) : tx L p t := by
  obtain ⟨o, h1, h2, _⟩ := h
  exact ⟨o, h1, h2⟩
theorem tx_one {L : List O3} {p t t' : Nat} (h : tx L p t) (h' : tx L p t') : t = t' := by
  obtain ⟨o, h1, h2⟩ := h
  obtain ⟨o', h3, h4⟩ := h'
  rw [h1] at h3
  cases h3
  omega
theorem Seen.next {L : List O3} {i t t' : Nat} (h : tx L i t) : Seen L (i + 1) t' ↔ (Seen L i t' ∨ t' = t) := by
  constructor
  · rintro ⟨p, hp, h1⟩
    by_cases e : p = i
    · rw [e] at h1; exact .inr (tx_one h1 h)
    · exact .inl ⟨p, by omega, h1⟩
  · rintro (⟨p, hp, h1⟩ | rfl)
    · exact ⟨p, by omega, h1⟩
    · exact ⟨i, by omega, h⟩

/-! ### The map of the transactions -/
theorem zero92 (w : World) : (zeroValue 92).run Yba.prog w = .ok (.pointer none) w := by kernel_rfl
def TB (w : World) (b : Nat) (s : Nat) (P : Nat → Prop) (tb : Nat → Nat) : Prop := ∃ n, ∃ Dm : DataW Unit, w.ownsMap Yba.prog 3 ptrElem b n Dm ∧ (∀ h, Maps.has Dm (klI h) = true ↔ P h) ∧ (∀ h, P h → ∀ zd, Dm.atKey (klI h) zd = .lit (.int .i64 (tb h : Nat))) ∧ Maps.size Dm ≤ s
theorem TB.keep {w w' : World} {b s : Nat} {P : Nat → Prop} {tb : Nat → Nat} (h : TB w b s P tb) (hb : w'.heap[b]? = w.heap[b]?) : TB w' b s P tb := by
  obtain ⟨n, Dm, h1, h2⟩ := h
  exact ⟨n, Dm, map_keep h1 hb, h2⟩
theorem TB.at_ {w : World} {b s : Nat} {P : Nat → Prop} {tb : Nat → Nat} (h : TB w b s P tb) : ∃ es c, w.heap[b]? = some (.map es c) := by
  obtain ⟨n, Dm, h1, h2⟩ := h
  exact map_at h1
theorem TB.hit {w : World} {b s : Nat} {P : Nat → Prop} {tb : Nat → Nat} (h : TB w b s P tb) {x : Nat} (hx : x < 2 ^ 62) (hk : P x) : (Instr.lookup 42 (.map (some b)) (.int .i64 (x : Int)) false).run Yba.prog w = .ok (Pp (tb x)) w := by
  obtain ⟨n, Dm, h1, h2, h3, h4⟩ := h
  obtain ⟨v, ps, hr, hv⟩ := h1.lookup key3 Yba.underlying42 (zero92 w) ptrElem_nil (keyI x hx)
  rw [h3 x hk] at hv
  rcases ptrElem_inv hv with ⟨b', rfl, e⟩ | ⟨_, e⟩
  · have e1 : tb x = b' := by simp at e; omega
    rw [hr, e1]
  · simp at e
theorem TB.miss {w : World} {b s : Nat} {P : Nat → Prop} {tb : Nat → Nat} (h : TB w b s P tb) {x : Nat} (hx : x < 2 ^ 62) (hk : ¬ P x) : (Instr.lookup 42 (.map (some b)) (.int .i64 (x : Int)) false).run Yba.prog w = .ok (.pointer none) w := by
  obtain ⟨n, Dm, h1, h2, h3, h4⟩ := h
  obtain ⟨v, ps, hr, hv⟩ := h1.lookup key3 Yba.underlying42 (zero92 w) ptrElem_nil (keyI x hx)
  have hh : Maps.has Dm (klI x) = false := by
    cases e : Maps.has Dm (klI x) with
    | true => exact absurd ((h2 x).1 e) hk
    | false => rfl
  rw [atKey_of_not_has hh] at hv
  rcases ptrElem_inv hv with ⟨b', rfl, e⟩ | ⟨rfl, _⟩
  · simp at e
  · exact hr
theorem TB.put {w : World} {b s : Nat} {P : Nat → Prop} {tb : Nat → Nat} (h : TB w b s P tb) {x : Nat} (hx : x < 2 ^ 62) (hk : ¬ P x) (hs : s ≤ 1000) (c : Nat) : ∃ w', (Instr.mapUpdate 42 (.map (some b)) (.int .i64 (x : Int)) (Pp c)).run Yba.prog w = .ok () w' ∧ TB w' b (s + 1) (fun t => P t ∨ t = x) (upd tb x c) ∧ w.grownBy w' (some b) := by
  obtain ⟨n, Dm, h1, h2, h3, h4⟩ := h
  have hM := h1.isMap
  have hT := h1.tidy key3
  have h1' : w.ownsMap Yba.prog 3 ptrElem b (Maps.size Dm) Dm := by
    obtain ⟨es, cl, a1, a2, a3, a4⟩ := h1
    exact ⟨es, cl, a1, a2, by rw [a4]; simp [Maps.size, length_sorted], a4⟩
  obtain ⟨w', hr, g1, g2⟩ := h1'.store key3 Yba.underlying42 (by unfold maxLen; omega) (keyI x hx) (ptrElem_mk c)
  refine ⟨w', hr, ⟨_, _, g1, fun y => ?_, fun y hy zd => ?_, ?_⟩, g2.grown⟩
  · by_cases e : y = x
    · subst e
      rw [has_put_same hM (klI_key y)]
      simp
    · rw [has_put_other (fun e' => e (klI_inj e')), h2 y]
      simp [e]
  · by_cases e : y = x
    · subst e
      rw [atKey_put_same hM (klI_key y), upd_same]
    · rw [atKey_put_other (fun e' => e (klI_inj e')), upd_other _ _ e]
      exact h3 y (by simpa [e] using hy) zd
  · rw [size_put hT]
    split <;> omega
theorem TB.made (w : World) (tb : Nat → Nat) : TB (w.alloc (.map #[] 0)) w.heap.size 0 (fun _ => False) tb := ⟨0, .map [], World.ownsMap_made w _ _ _, fun h => by simp [Maps.has], fun h hh => hh.elim, Nat.le_refl _⟩
theorem TB.iff {w : World} {b s : Nat} {P Q : Nat → Prop} {tb tb' : Nat → Nat} (h : TB w b s P tb) (e : ∀ t, P t ↔ Q t) (e' : ∀ t, Q t → tb t = tb' t) : TB w b s Q tb' := by
  obtain ⟨n, Dm, h1, h2, h3, h4⟩ := h
  exact ⟨n, Dm, h1, fun t => (h2 t).trans (e t), fun t ht zd => by rw [← e' t ht]; exact h3 t ((e t).2 ht) zd, h4⟩

/-! ### What spans has found out of the first i operations -/
structure Sp (N : Nat) (w : World) (mb : Nat) (L : List O3) (i : Nat) (tb f l a : Nat → Nat) : Prop where
  map : TB w mb i (Seen L i) tb
  mnew : N ≤ mb
  blk : ∀ t, Seen L i t → w.heap[tb t]? = some (.cells #[.int .i64 (t : Int), .int .i64 (f t : Int), .int .i64 (l t : Int), .int .i64 (a t : Int)] 99 (0, 0))
  new : ∀ t, Seen L i t → N ≤ tb t
  inj : ∀ t t', Seen L i t → Seen L i t' → tb t = tb t' → t = t'
  fi : ∀ t, Seen L i t → Fi L i t (f t)
  la : ∀ t, Seen L i t → La L i t (l t)
  ab : ∀ t, Seen L i t → Ab L i t (a t)
theorem Sp.keep {N mb i : Nat} {w w' : World} {L : List O3} {tb f l a : Nat → Nat} (h : Sp N w mb L i tb f l a) (hm : w'.heap[mb]? = w.heap[mb]?) (hb : ∀ t, Seen L i t → w'.heap[tb t]? = w.heap[tb t]?) : Sp N w' mb L i tb f l a :=
  ⟨h.map.keep hm, h.mnew, fun t ht => (hb t ht).trans (h.blk t ht), h.new, h.inj, h.fi, h.la, h.ab⟩
theorem Sp.next {N mb i : Nat} {w w' : World} {L : List O3} {tb f l a : Nat → Nat} (h : Sp N w mb L i tb f l a) {t : Nat} (ht : tx L i t) {B F A : Nat} (hm : TB w' mb (i + 1) (fun x => Seen L i x ∨ x = t) (upd tb t B))
    (ho : ∀ x, Seen L i x → x ≠ t → w'.heap[tb x]? = w.heap[tb x]?) (hB : w'.heap[B]? = some (.cells #[.int .i64 (t : Int), .int .i64 (F : Int), .int .i64 (i : Int), .int .i64 (A : Int)] 99 (0, 0))) (hN : N ≤ B) (hne : ∀ x, Seen L i x → x ≠ t → tb x ≠ B)
    (hF : Fi L (i + 1) t F) (hA : Ab L (i + 1) t A) : Sp N w' mb L (i + 1) (upd tb t B) (upd f t F) (upd l t i) (upd a t A) := by
  have sn : ∀ x, Seen L (i + 1) x → x ≠ t → Seen L i x := fun x hx e => ((Seen.next ht).1 hx).resolve_right e
  have ntx : ∀ x, x ≠ t → ¬ tx L i x := fun x e h' => e (tx_one h' ht)
  refine ⟨hm.iff (fun x => (Seen.next ht).symm) (fun _ _ => rfl), h.mnew, fun x hx => ?_, fun x hx => ?_, fun x y hx hy e => ?_, fun x hx => ?_, fun x hx => ?_, fun x hx => ?_⟩
  · by_cases e : x = t
    · subst e
      simp only [upd_same]
      exact hB
    · simp only [upd_other _ _ e]
      exact (ho x (sn x hx e) e).trans (h.blk x (sn x hx e))
  · by_cases e : x = t
    · subst e; rw [upd_same]; exact hN
    · rw [upd_other _ _ e]; exact h.new x (sn x hx e)
  · by_cases e1 : x = t <;> by_cases e2 : y = t
    · exact e1.trans e2.symm
    · rw [e1, upd_same, upd_other _ _ e2] at e
      exact absurd e.symm (hne y (sn y hy e2) e2)
    · rw [e2, upd_same, upd_other _ _ e1] at e
      exact absurd e (hne x (sn x hx e1) e1)
    · rw [upd_other _ _ e1, upd_other _ _ e2] at e
      exact h.inj x y (sn x hx e1) (sn y hy e2) e
  · by_cases e : x = t
    · subst e; rw [upd_same]; exact hF
    · rw [upd_other _ _ e]; exact (h.fi x (sn x hx e)).next
  · by_cases e : x = t
    · subst e; rw [upd_same]; exact La.here ht
    · rw [upd_other _ _ e]; exact (h.la x (sn x hx e)).next (ntx x e)
  · by_cases e : x = t
    · subst e; rw [upd_same]; exact hA
    · rw [upd_other _ _ e]; exact (h.ab x (sn x hx e)).next (fun h' => ntx x e (ab_tx h'))
end Go.Proofs.Ybulkaggi.BM

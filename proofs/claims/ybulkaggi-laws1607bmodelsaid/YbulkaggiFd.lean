import Derived.Test.YbulkaggiBw
import Derived.Test.YbulkaggiDj
namespace Go.Proofs.Ybulkaggi.BM
open Go.RowKit Go.Proofs.Ybulkaggi
set_option linter.unusedVariables false
set_option maxRecDepth 100000

/-! ### The two sides see the same first, last and abort -/
theorem Fi.one {L : List O3} {i t p q : Nat} (h : Fi L i t p) (h' : Fi L i t q) : p = q := by
  rcases Nat.lt_trichotomy p q with e | e | e
  · exact absurd h.at_ (h'.no p e)
  · exact e
  · exact absurd h'.at_ (h.no q e)
theorem La.one {L : List O3} {i t p q : Nat} (h : La L i t p) (h' : La L i t q) : p = q := by
  rcases Nat.lt_trichotomy p q with e | e | e
  · exact absurd h'.at_ (h.no q e h'.lt)
  · exact e
  · exact absurd h.at_ (h'.no p e h.lt)
theorem Ab.one {L : List O3} {i t p q : Nat} (h : Ab L i t p) (h' : Ab L i t q) : p = q := by
  rcases h with ⟨a1, a2⟩ | ⟨a1, a2, a3⟩ <;> rcases h' with ⟨b1, b2⟩ | ⟨b1, b2, b3⟩
  · omega
  · exact absurd b2 (a2 q b1)
  · exact absurd a2 (b2 p a1)
  · rcases Nat.lt_trichotomy p q with e | e | e
    · exact absurd b2 (a3 q e b1)
    · exact e
    · exact absurd a2 (b3 p e a1)
structure Same (L : List O3) (f l a : Nat → Nat) (M : Md) : Prop where
  eL : M.L = L
  sn : ∀ t, t ≤ 4 → (M.sn t = true ↔ Seen L L.length t)
  f : ∀ t, Seen L L.length t → M.f t = f t
  l : ∀ t, Seen L L.length t → M.l t = l t
  s : ∀ t, Seen L L.length t → M.s t = a t
theorem Same.of {N mb : Nat} {w : World} {L : List O3} {tb f l a : Nat → Nat} {M : Md} (ok : ∀ i (h : i < L.length), OkO L[i]) (hs : Sp N w mb L L.length tb f l a) (hL : M.L = L) (hp : P2 L L.length M.sn M.f M.l M.s) : Same L f l a M := by
  have bd : ∀ {t : Nat}, Seen L L.length t → 1 ≤ t ∧ t ≤ 4 := fun ⟨p, hp, o, h1, h2⟩ => by
    obtain ⟨h3, h4⟩ := List.getElem?_eq_some_iff.1 h1
    have := ok p h3
    rw [h4] at this
    rw [← h2]
    exact ⟨this.t1, this.t4⟩
  exact ⟨hL, hp.sn, fun t ht => (hp.fi t ht).one (hs.fi t ht), fun t ht => (hp.la t ht).one (hs.la t ht), fun t ht => (hp.ab t (bd ht).1 (bd ht).2).one (hs.ab t ht)⟩
theorem vis_parts (M : Md) (a b j : Nat) : M.vis (a, b, j) = true ↔ a ≠ b ∧ M.sn a = true ∧ M.sn b = true ∧ M.f a ≤ M.l b ∧ M.f b ≤ M.l a ∧ touch M.L a j = true ∧ touch M.L b j = true := by
  have v : M.vis (a, b, j) = true ↔ (M.c1 a b = false ∧ M.c2 a b = false ∧ M.c3 a b j = false) := by
    unfold Md.vis
    cases M.c1 a b <;> cases M.c2 a b <;> cases M.c3 a b j <;> simp
  have k1 : M.c1 a b = false ↔ a ≠ b ∧ M.sn a = true ∧ M.sn b = true := by simp [Md.c1, and_assoc]
  have k2 : M.c2 a b = false ↔ M.f a ≤ M.l b ∧ M.f b ≤ M.l a := by
    rw [show M.c2 a b = (decide (M.l b < M.f a) || decide (M.l a < M.f b)) from rfl, Bool.or_eq_false_iff]
    exact ⟨fun ⟨h1, h2⟩ => ⟨Nat.not_lt.1 (of_decide_eq_false h1), Nat.not_lt.1 (of_decide_eq_false h2)⟩, fun ⟨h1, h2⟩ => ⟨decide_eq_false (Nat.not_lt.2 h1), decide_eq_false (Nat.not_lt.2 h2)⟩⟩
  have k3 : M.c3 a b j = false ↔ touch M.L a j = true ∧ touch M.L b j = true := by simp [Md.c3]
  rw [v, k1, k2, k3]
  exact ⟨fun ⟨⟨h1, h2, h3⟩, ⟨h4, h5⟩, h6, h7⟩ => ⟨h1, h2, h3, h4, h5, h6, h7⟩, fun ⟨h1, h2, h3, h4, h5, h6, h7⟩ => ⟨⟨h1, h2, h3⟩, ⟨h4, h5⟩, h6, h7⟩⟩
theorem touch_seen {L : List O3} {t j : Nat} (h : touch L t j = true) : Seen L L.length t := by
  obtain ⟨p, h1, h2, _⟩ := touch_iff.1 h
  rw [← h2]
  exact acc_seen h1
section
variable {L : List O3} {f l a : Nat → Nat} {M : Md}
theorem Same.vis (h : Same L f l a M) (t : T3) (h1 : t.1 ≤ 4) (h2 : t.2.1 ≤ 4) : M.vis t = (PM L f l a).vis t := by
  obtain ⟨x, y, j⟩ := t
  rw [Bool.eq_iff_iff, vis_parts, vis_iff, h.eL]
  constructor
  · rintro ⟨g1, g2, g3, g4, g5, g6, g7⟩
    rw [h.f x (touch_seen g6), h.l y (touch_seen g7)] at g4
    rw [h.f y (touch_seen g7), h.l x (touch_seen g6)] at g5
    exact ⟨g1, g4, g5, g6, g7⟩
  · rintro ⟨g1, g4, g5, g6, g7⟩
    rw [h.f x (touch_seen g6), h.l y (touch_seen g7), h.f y (touch_seen g7), h.l x (touch_seen g6)]
    exact ⟨g1, (h.sn x h1).2 (touch_seen g6), (h.sn y h2).2 (touch_seen g7), g4, g5, g6, g7⟩
theorem Same.E (h : Same L f l a M) {t : T3} (hv : (PM L f l a).vis t = true) : M.E t = (PM L f l a).E t ∧ M.s t.1 = a t.1 ∧ M.s t.2.1 = a t.2.1 := by
  obtain ⟨x, y, j⟩ := t
  obtain ⟨_, _, _, g6, g7⟩ := (vis_iff L f l a x y j).1 hv
  have e1 := h.s x (touch_seen g6)
  have e2 := h.s y (touch_seen g7)
  refine ⟨?_, e1, e2⟩
  show (⟨M.L, x, y, j, M.s y⟩ : Ev) = ⟨L, x, y, j, a y⟩
  rw [h.eL, e2]
theorem Same.k1 (h : Same L f l a M) {t : T3} (hv : (PM L f l a).vis t = true) : M.k1 t = (PM L f l a).k1 t := by
  obtain ⟨e, e1, e2⟩ := h.E hv
  have q1 : M.ls t = (PM L f l a).ls t := by
    unfold Md.ls
    rw [e, e1, e2, h.eL]
    rfl
  have q2 : M.nr t = (PM L f l a).nr t := by
    unfold Md.nr
    rw [e, h.eL]
    rfl
  unfold Md.k1
  rw [q1, q2]
theorem Same.rb (h : Same L f l a M) {t : T3} (hv : (PM L f l a).vis t = true) : M.rb t = (PM L f l a).rb t ∧ M.ra t = (PM L f l a).ra t := by
  obtain ⟨e, e1, e2⟩ := h.E hv
  unfold Md.rb Md.ra
  rw [e, h.eL]
  exact ⟨rfl, rfl⟩
end

/-! ### All pairs, in the other order -/
def allQ : List T3 := (List.range 4).flatMap fun x => (List.range 4).flatMap fun y => (List.range 3).map fun i => ((x + 1, y + 1, i) : T3)
theorem allT_nd : allT.Nodup := by decide
theorem allQ_nd : allQ.Nodup := by decide
theorem mem_allT (t : T3) : t ∈ allT ↔ 1 ≤ t.1 ∧ t.1 ≤ 4 ∧ 1 ≤ t.2.1 ∧ t.2.1 ≤ 4 ∧ t.2.2 < 3 := by
  obtain ⟨x, y, j⟩ := t
  simp only [allT, rowK, rowA, List.mem_flatMap, List.mem_map, List.mem_range, Prod.mk.injEq]
  constructor
  · rintro ⟨k, hk, x', hx, y', hy, rfl, rfl, rfl⟩
    omega
  · rintro ⟨h1, h2, h3, h4, h5⟩
    exact ⟨j, h5, x - 1, by omega, y - 1, by omega, by omega, by omega, rfl⟩
theorem mem_allQ (t : T3) : t ∈ allQ ↔ 1 ≤ t.1 ∧ t.1 ≤ 4 ∧ 1 ≤ t.2.1 ∧ t.2.1 ≤ 4 ∧ t.2.2 < 3 := by
  obtain ⟨x, y, j⟩ := t
  simp only [allQ, List.mem_flatMap, List.mem_map, List.mem_range, Prod.mk.injEq]
  constructor
  · rintro ⟨x', hx, y', hy, k, hk, rfl, rfl, rfl⟩
    omega
  · rintro ⟨h1, h2, h3, h4, h5⟩
    exact ⟨x - 1, by omega, y - 1, by omega, j, h5, by omega, by omega, rfl⟩
theorem filter_flat {α β : Type} (p : α → Bool) (g : α → List β) : ∀ l : List α, (l.filter p).flatMap g = l.flatMap fun t => if p t then g t else []
  | [] => rfl
  | x :: l => by
    have ih := filter_flat p g l
    by_cases e : p x = true
    · rw [List.filter_cons_of_pos e, List.flatMap_cons, List.flatMap_cons, ih, if_pos e]
    · rw [List.filter_cons_of_neg e, List.flatMap_cons, ih, if_neg e]
      rfl
theorem ad_flat {α β : Type} (p : α → Bool) (g : α → β) : ∀ l : List α, (l.flatMap fun t => ad (p t) (g t)) = (l.filter p).map g
  | [] => rfl
  | x :: l => by
    have ih := ad_flat p g l
    rw [List.flatMap_cons, ih]
    cases e : p x
    · rw [List.filter_cons_of_neg (by simp [e])]
      rfl
    · rw [List.filter_cons_of_pos e]
      rfl
theorem kW_flat (bf af : T3 → Bool) : kW bf af = allQ.flatMap fun t => (List.range 3).flatMap (k2 bf af t.1 t.2.1 t.2.2) := by
  unfold kW kA kP kI allQ
  simp only [List.flatMap_assoc, List.flatMap_map]
theorem itS_ne {i j : Nat} (hi : i < 3) (hj : j < 3) : (itS i).toList ≠ (itS j).toList ↔ i ≠ j := by
  rw [ne_eq, itS_L hi hj]
end Go.Proofs.Ybulkaggi.BM

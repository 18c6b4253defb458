import Derived.Test.YbulkaggiE3
import Derived.Shelf.SlSortCmp.Insertion
namespace Go.Proofs.Ybulkaggi
open Go.RowKit Go.Sort
set_option linter.unusedVariables false

/-! ### Three-way comparisons -/
structure Cmp3 {α : Type} (c : α → α → Int) : Prop where
  anti : ∀ x y, c x y < 0 ↔ 0 < c y x
  le_trans : ∀ x y z, c x y ≤ 0 → c y z ≤ 0 → c x z ≤ 0

theorem Cmp3.refl {α : Type} {c : α → α → Int} (h : Cmp3 c) (x : α) : c x x = 0 := by have := h.anti x x; omega
theorem Cmp3.zero {α : Type} {c : α → α → Int} (h : Cmp3 c) (x y : α) (e : c x y = 0) : c y x = 0 := by have := h.anti x y; have := h.anti y x; omega

theorem Cmp3.swo {α : Type} {c : α → α → Int} (h : Cmp3 c) : SWO (ltOf c) where
  irrefl x := by have := h.refl x; simp [ltOf, this]
  trans x y z h1 h2 := by
    simp only [ltOf, decide_eq_true_eq] at *
    have a := h.anti x y; have b := h.anti y z; have d := h.anti x z; have d' := h.anti z x
    have e1 := h.le_trans x y z (by omega) (by omega)
    have e2 := h.le_trans y z x
    have e3 := h.le_trans z x y
    have a' := h.anti y x; have b' := h.anti z y
    omega
  ntrans x y z h1 h2 := by
    simp only [ltOf, decide_eq_false_iff_not] at *
    have a := h.anti x y; have b := h.anti y z; have d := h.anti x z
    have a' := h.anti y x; have b' := h.anti z y; have d' := h.anti z x
    have e1 := h.le_trans z y x
    omega

theorem Cmp3.lex {α : Type} {c d : α → α → Int} (hc : Cmp3 c) (hd : Cmp3 d) : Cmp3 (fun x y => orI (c x y) (d x y)) where
  anti x y := by
    have a := hc.anti x y; have a' := hc.anti y x; have b := hd.anti x y
    simp only [orI]
    split <;> split <;> omega
  le_trans x y z := by
    have a := hc.anti x y; have a' := hc.anti y x; have b := hc.anti y z; have b' := hc.anti z y; have e := hc.anti x z; have e' := hc.anti z x
    have t := hc.le_trans x y z
    have t1 := hc.le_trans y z x
    have t2 := hc.le_trans z x y
    have u := hd.le_trans x y z
    simp only [orI]
    split <;> split <;> split <;> omega

theorem cmpI_three {α : Type} (f : α → Int) : Cmp3 (fun x y => cmpI (f x) (f y)) where
  anti x y := by simp only [cmpI]; split <;> split <;> (try split) <;> (try split) <;> omega
  le_trans x y z := by simp only [cmpI]; (repeat' split) <;> omega

theorem lt_tri (x y : List UInt8) : x < y ∨ x = y ∨ y < x := by
  rcases List.le_total x y with h | h
  · rcases Classical.em (x = y) with e | e
    · exact .inr (.inl e)
    · exact .inl (Classical.byContradiction fun h' => e (List.le_antisymm h (List.not_lt.1 h')))
  · rcases Classical.em (x = y) with e | e
    · exact .inr (.inl e)
    · exact .inr (.inr (Classical.byContradiction fun h' => e (List.le_antisymm (List.not_lt.1 h') h)))

theorem cmpS_val (x y : List UInt8) : (cmpS x y < 0 ↔ x < y) ∧ (cmpS x y = 0 ↔ x = y) ∧ (0 < cmpS x y ↔ y < x) := by
  unfold cmpS
  by_cases h1 : x < y
  · have h2 : ¬ x = y := fun e => List.lt_irrefl y (e ▸ h1)
    have h3 : ¬ y < x := fun h => List.lt_irrefl x (List.lt_trans h1 h)
    simp [h1, h2, h3]
  · by_cases h2 : x = y
    · subst h2; simp [h1]
    · have h3 : y < x := by rcases lt_tri x y with h | h | h; exact absurd h h1; exact absurd h h2; exact h
      simp [h1, h2, h3]

theorem cmpS_three {α : Type} (f : α → List UInt8) : Cmp3 (fun x y => cmpS (f x) (f y)) where
  anti x y := by rw [(cmpS_val _ _).1, (cmpS_val _ _).2.2]
  le_trans x y z h1 h2 := by
    have a := cmpS_val (f x) (f y); have b := cmpS_val (f y) (f z); have d := cmpS_val (f x) (f z)
    have h1' : ¬ f y < f x := fun h => by have := a.2.2.2 h; omega
    have h2' : ¬ f z < f y := fun h => by have := b.2.2.2 h; omega
    have h3 : ¬ f z < f x := by
      have := List.le_trans (List.not_lt.1 h1') (List.not_lt.1 h2')
      exact List.not_lt.2 this
    exact Int.not_lt.1 fun h => h3 (d.2.2.1 h)

/-! ### Halves: what the pairs are -/
abbrev D := Int × Int × ByteArray × ByteArray
def same (u v : H) : Bool := decide (u.1 = v.1 ∧ u.2.1 = v.2.1)
def other (u v : H) : Bool := !(u.2.2.toList == v.2.2.toList)
def hit (u v : H) : Bool := same u v && other u v
def mkD (u v : H) : D := (u.1, u.2.1, u.2.2, v.2.2)
def prs (us vs : List H) : List D := us.flatMap fun u => (vs.filter (hit u)).map (mkD u)

theorem prs_cons (u : H) (us vs : List H) : prs (u :: us) vs = (vs.filter (hit u)).map (mkD u) ++ prs us vs := by simp [prs]
theorem prs_append (us us' vs : List H) : prs (us ++ us') vs = prs us vs ++ prs us' vs := by simp [prs]
theorem prs_nil (vs : List H) : prs [] vs = [] := rfl
theorem prs_perm {us us' vs vs' : List H} (h1 : us.Perm us') (h2 : vs.Perm vs') : (prs us vs).Perm (prs us' vs') := by
  refine (List.Perm.flatMap_right _ h1).trans ?_
  clear h1
  induction us' with
  | nil => exact List.Perm.refl _
  | cons u l ih =>
    simp only [List.flatMap_cons] at *
    exact ((h2.filter _).map _).append ih
theorem prs_right {us vs vs' : List H} (h : ∀ u ∈ us, ∀ v ∈ vs', hit u v = false) : prs us (vs ++ vs') = prs us vs := by
  induction us with
  | nil => rfl
  | cons u l ih =>
    rw [prs_cons, prs_cons, ih (fun x hx => h x (List.mem_cons_of_mem _ hx)), List.filter_append]
    have e : vs'.filter (hit u) = [] := List.filter_eq_nil_iff.2 fun v hv => by rw [h u (by simp) v hv]; simp
    rw [e, List.append_nil]
theorem prs_left {us vs vs' : List H} (h : ∀ u ∈ us, ∀ v ∈ vs, hit u v = false) : prs us (vs ++ vs') = prs us vs' := by
  induction us with
  | nil => rfl
  | cons u l ih =>
    rw [prs_cons, prs_cons, ih (fun x hx => h x (List.mem_cons_of_mem _ hx)), List.filter_append]
    have e : vs.filter (hit u) = [] := List.filter_eq_nil_iff.2 fun v hv => by rw [h u (by simp) v hv]; simp
    rw [e, List.nil_append]
theorem prs_none {us vs : List H} (h : ∀ u ∈ us, ∀ v ∈ vs, hit u v = false) : prs us vs = [] := by
  have := prs_left (vs' := []) h
  rw [List.append_nil] at this
  rw [this]
  clear this h
  induction us with
  | nil => rfl
  | cons u l ih => rw [prs_cons, ih]; rfl
theorem prs_len (us vs : List H) : (prs us vs).length ≤ us.length * vs.length := by
  induction us with
  | nil => simp [prs]
  | cons u l ih =>
    rw [prs_cons, List.length_append, List.length_map, List.length_cons, Nat.add_mul, Nat.one_mul]
    have := List.length_filter_le (hit u) vs
    omega

/-! ### Sorted halves -/
def kl (u v : H) : Prop := u.1 < v.1 ∨ (u.1 = v.1 ∧ u.2.1 < v.2.1)
def cmpH (u v : H) : Int := cmpP u.1 u.2.1 v.1 v.2.1
theorem cmpH_three : Cmp3 cmpH := Cmp3.lex (cmpI_three fun u : H => u.1) (cmpI_three fun u : H => u.2.1)
theorem cmpH_val (u v : H) : (cmpH u v < 0 ↔ kl u v) ∧ (cmpH u v = 0 ↔ same u v = true) ∧ (0 < cmpH u v ↔ kl v u) := by
  obtain ⟨a, b, s⟩ := u
  obtain ⟨a', b', s'⟩ := v
  simp only [cmpH, cmpP, orI, cmpI, kl, same, decide_eq_true_eq]
  refine ⟨?_, ?_, ?_⟩ <;> (repeat' split) <;> omega

def Srt (l : List H) : Prop := l.Pairwise fun x y => ¬ kl y x

theorem hit_same {u v : H} (h : same u v = false) : hit u v = false := by simp [hit, h]
theorem same_of_kl {u v : H} (h : kl u v) : same u v = false := by
  simp only [same, decide_eq_false_iff_not]; unfold kl at h; omega
theorem same_of_kl' {u v : H} (h : kl v u) : same u v = false := by
  simp only [same, decide_eq_false_iff_not]; unfold kl at h; omega

/-- us[i] lies below vs[j]: it meets none of what is left. -/
theorem step_lt {us vs : List H} {i j : Nat} (hi : i < us.length) (hj : j < vs.length) (hv : Srt vs) (h : kl us[i] vs[j]) : prs (us.drop i) (vs.drop j) = prs (us.drop (i + 1)) (vs.drop j) := by
  rw [List.drop_eq_getElem_cons hi, prs_cons]
  have e : (vs.drop j).filter (hit us[i]) = [] := List.filter_eq_nil_iff.2 fun v hm => by
    have hp : Srt (vs.drop j) := hv.sublist (List.drop_sublist _ _)
    rw [List.drop_eq_getElem_cons hj] at hm hp
    have hk : ¬ kl v vs[j] := by
      rcases List.mem_cons.1 hm with rfl | hm'
      · unfold kl; omega
      · exact (List.pairwise_cons.1 hp).1 v hm'
    have : hit us[i] v = false := hit_same (same_of_kl (by unfold kl at *; omega))
    rw [this]; simp
  rw [e]; rfl

theorem step_gt {us vs : List H} {i j : Nat} (hi : i < us.length) (hj : j < vs.length) (hu : Srt us) (h : kl vs[j] us[i]) : prs (us.drop i) (vs.drop j) = prs (us.drop i) (vs.drop (j + 1)) := by
  rw [List.drop_eq_getElem_cons hj]
  refine prs_left (vs := [vs[j]]) fun u hm v hv => ?_
  obtain rfl := List.mem_singleton.1 hv
  have hp : Srt (us.drop i) := hu.sublist (List.drop_sublist _ _)
  rw [List.drop_eq_getElem_cons hi] at hm hp
  have hk : ¬ kl u us[i] := by
    rcases List.mem_cons.1 hm with rfl | hm'
    · unfold kl; omega
    · exact (List.pairwise_cons.1 hp).1 u hm'
  exact hit_same (same_of_kl' (by unfold kl at *; omega))

/-- The run of one key. -/
structure Run (l : List H) (i k : Nat) : Prop where
  lt : i < k
  le : k ≤ l.length
  all : ∀ t (ht : t < l.length) (hi : i < l.length), i ≤ t → t < k → same l[t] l[i] = true

theorem run_drop {l : List H} {i k : Nat} (r : Run l i k) : l.drop i = (l.drop i).take (k - i) ++ l.drop k := by
  have e : k = i + (k - i) := by have := r.lt; omega
  conv => lhs; rw [← List.take_append_drop (k - i) (l.drop i)]
  rw [List.drop_drop, ← e]

theorem run_after {l : List H} {i k : Nat} (r : Run l i k) (hs : Srt l) (hi : i < l.length) (hend : ∀ (h : k < l.length), same l[k] l[i] = false) : ∀ u ∈ l.drop k, kl l[i] u := by
  intro u hu
  rcases Nat.lt_or_ge k l.length with hk | hk
  · have h1 := hend hk
    have hp := List.pairwise_iff_getElem.1 hs
    have h2 := hp i k hi hk r.lt
    have h3 : kl l[i] l[k] := by simp only [same, decide_eq_false_iff_not] at h1; unfold kl at *; omega
    have hp2 : Srt (l.drop k) := hs.sublist (List.drop_sublist _ _)
    rw [List.drop_eq_getElem_cons hk] at hu hp2
    rcases List.mem_cons.1 hu with rfl | hu'
    · exact h3
    · have h4 := (List.pairwise_cons.1 hp2).1 u hu'
      unfold kl at *; omega
  · rw [List.drop_of_length_le hk] at hu; simp at hu

theorem run_mem {l : List H} {i k : Nat} (r : Run l i k) (hi : i < l.length) : ∀ u ∈ (l.drop i).take (k - i), same u l[i] = true := by
  intro u hu
  obtain ⟨t, ht, rfl⟩ := List.getElem_of_mem hu
  simp only [List.getElem_take, List.getElem_drop]
  simp only [List.length_take, List.length_drop] at ht
  exact r.all (i + t) (by omega) hi (by omega) (by omega)

theorem step_eq {us vs : List H} {i j k m : Nat} (hi : i < us.length) (hj : j < vs.length) (hu : Srt us) (hv : Srt vs) (h : same us[i] vs[j] = true) (ru : Run us i k) (rv : Run vs j m)
    (eu : ∀ (h : k < us.length), same us[k] us[i] = false) (ev : ∀ (h : m < vs.length), same vs[m] vs[j] = false) :
    prs (us.drop i) (vs.drop j) = prs ((us.drop i).take (k - i)) ((vs.drop j).take (m - j)) ++ prs (us.drop k) (vs.drop m) := by
  have a := run_mem ru hi
  have b := run_mem rv hj
  have a' := run_after ru hu hi eu
  have b' := run_after rv hv hj ev
  have eU := run_drop ru
  have eV := run_drop rv
  generalize (us.drop i).take (k - i) = U at *
  generalize (vs.drop j).take (m - j) = V at *
  rw [eU, eV]
  have r1 : ∀ u ∈ us.drop k, ∀ v ∈ V, hit u v = false := fun u hu' v hv' => by
    have h1 := a' u hu'; have h2 := b v hv'
    refine hit_same (same_of_kl' ?_)
    simp only [same, decide_eq_true_eq] at h h2; unfold kl at *; omega
  have r2 : ∀ u ∈ U, ∀ v ∈ vs.drop m, hit u v = false := fun u hu' v hv' => by
    have h1 := a u hu'; have h2 := b' v hv'
    refine hit_same (same_of_kl ?_)
    simp only [same, decide_eq_true_eq] at h h1; unfold kl at *; omega
  rw [prs_append, prs_right r2, prs_left r1]

/-- Within a run the pairs are those of two items. -/
theorem prs_run {U V : List H} {x y : H} (h : same x y = true) (a : ∀ u ∈ U, same u x = true) (b : ∀ v ∈ V, same v y = true) : ∀ u ∈ U, ∀ v ∈ V, hit u v = other u v := by
  intro u hu v hv
  have h1 := a u hu; have h2 := b v hv
  have : same u v = true := by simp only [same, decide_eq_true_eq] at *; omega
  simp [hit, this]

/-! ### The anomalies' order -/
abbrev KD := Int × Int × List UInt8 × List UInt8
def cmpK (x y : KD) : Int := orI (cmpI x.1 y.1) (orI (cmpI x.2.1 y.2.1) (orI (cmpS x.2.2.1 y.2.2.1) (cmpS x.2.2.2 y.2.2.2)))
theorem cmpK_three : Cmp3 cmpK := Cmp3.lex (cmpI_three fun x : KD => x.1) (Cmp3.lex (cmpI_three fun x : KD => x.2.1) (Cmp3.lex (cmpS_three fun x : KD => x.2.2.1) (cmpS_three fun x : KD => x.2.2.2)))
theorem orI_zero {x y : Int} (h : orI x y = 0) : x = 0 ∧ y = 0 := by
  unfold orI at h; split at h <;> omega
theorem cmpI_zero {x y : Int} (h : cmpI x y = 0) : x = y := by
  unfold cmpI at h; split at h <;> (try split at h) <;> omega
theorem cmpK_zero (x y : KD) (h : cmpK x y = 0) : x = y := by
  obtain ⟨h1, h⟩ := orI_zero h
  obtain ⟨h2, h⟩ := orI_zero h
  obtain ⟨h3, h4⟩ := orI_zero h
  obtain ⟨a, b, s, t⟩ := x
  obtain ⟨a', b', s', t'⟩ := y
  have e1 := cmpI_zero h1
  have e2 := cmpI_zero h2
  have e3 := (cmpS_val _ _).2.1.1 h3
  have e4 := (cmpS_val _ _).2.1.1 h4
  simp only at e1 e2 e3 e4
  subst e1; subst e2; subst e3; subst e4
  rfl
def keyD (x : D) : KD := (x.1, x.2.1, x.2.2.1.toList, x.2.2.2.toList)
def cmpD (x y : D) : Int := cmpK (keyD x) (keyD y)

theorem Cmp3.on {α β : Type} {c : β → β → Int} (h : Cmp3 c) (f : α → β) : Cmp3 (fun x y => c (f x) (f y)) := ⟨fun x y => h.anti _ _, fun x y z => h.le_trans _ _ _⟩

theorem sorted_unique {β : Type} {c : β → β → Int} (h : Cmp3 c) (hz : ∀ x y, c x y = 0 → x = y) : ∀ (l l' : List β), l.Perm l' → l.Pairwise (fun x y => ¬ c y x < 0) → l'.Pairwise (fun x y => ¬ c y x < 0) → l = l' := by
  intro l
  induction l with
  | nil => intro l' hp _ _; exact (List.Perm.nil_eq hp)
  | cons x t ih =>
    intro l' hp hs hs'
    match l', hp, hs' with
    | [], hp, _ => simp at hp
    | y :: t', hp, hs' =>
      have sx := List.pairwise_cons.1 hs
      have sy := List.pairwise_cons.1 hs'
      have hxy : x = y := by
        have m1 : x ∈ y :: t' := hp.subset (by simp)
        have m2 : y ∈ x :: t := hp.symm.subset (by simp)
        have a1 : ¬ c x y < 0 := by
          rcases List.mem_cons.1 m1 with rfl | m
          · have := h.refl x; omega
          · exact sy.1 x m
        have a2 : ¬ c y x < 0 := by
          rcases List.mem_cons.1 m2 with rfl | m
          · have := h.refl y; omega
          · exact sx.1 y m
        refine hz x y ?_
        have := h.anti x y; have := h.anti y x; omega
      subst hxy
      rw [ih t' hp.cons_inv sx.2 sy.2]

end Go.Proofs.Ybulkaggi

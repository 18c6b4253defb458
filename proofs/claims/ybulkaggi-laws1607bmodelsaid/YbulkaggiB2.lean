import Derived.Test.YbulkaggiB1
namespace Go.Proofs.Ybulkaggi.BM
open Go.RowKit Go.Proofs.Ybulkaggi
set_option linter.unusedVariables false
set_option maxRecDepth 100000

theorem isAccess_any (o : O3) (h : OkO o) (w : World) : Calls Yba.prog 56 #[.agg #[.string (actB o.1), .int .i64 (o.2.1 : Nat), .string (itB o)]] w fun e w' => e = .returned (.bool (decide (o.1 ≤ 2))) ∧ Below w.heap.size w w' := by
  have HC := hide (isRead_any o.1 h.k)
  have hk := h.k
  obtain ⟨k, t, i⟩ := o
  simp only at hk HC ⊢
  have HB : Hid (∀ v, Below w.heap.size w (w.alloc v)) := fun v => (Below.refl _ _).alloc (Nat.le_refl _) v
  generalize itB (k, t, i) = s
  clear h
  rcases (by omega : k = 0 ∨ k = 1 ∨ k = 2 ∨ k = 3 ∨ k = 4 ∨ k = 5) with rfl | rfl | rfl | rfl | rfl | rfl
  all_goals (
    simp only [actB] at HC ⊢
    go_enter Yba.func56, Yba.ntmps56
    go_wp2_with (go_at_call 64; refine (HC.out _).mono ?_; rintro e w' ⟨rfl, hw⟩; obtain rfl := hw.symm)
    go_ret
    exact ⟨rfl, HB.out _⟩)

theorem br_any {g n cap p t j : Nat} {L : List O3} (w : World) (h : OpsAt w g L) (hn : L.length = n) (hp : p < n) (hj : j < 3) :
    Calls Yba.prog 36 #[.slice (some ⟨g, 0, none⟩) n cap, .int .i64 (p : Int), .int .i64 (t : Int), .string (itS j)] w fun e w' => e = .returned (.bool (rdB (L[p]'(by omega)) t j)) ∧ w' = w := by
  have hp' : (p : Int) < (n : Int) := by omega
  have c0 := h.a p (by omega)
  have c1 := h.t p (by omega)
  have c2 := h.i p (by omega)
  have ok := h.ok p (by omega)
  have hi := itB_L ok hj
  generalize hL : L[p]'(by omega) = o at c0 c1 c2 ok hi ⊢
  have hk := ok.k
  clear h hL ok
  by_cases e1 : o.2.1 = t
  · by_cases e2 : o.1 ≠ 3 ∧ o.1 ≠ 4 ∧ o.2.2 = j
    · replace hi := hi.2 e2
      obtain ⟨k, t', i⟩ := o
      simp only at e1 e2 hk c0 c1
      subst e1
      generalize itB (k, t', i) = s at *
      have hp1 : Hid (i = j) := e2.2.2
      clear e2
      rcases (by omega : k = 0 ∨ k = 1 ∨ k = 2 ∨ k = 3 ∨ k = 4 ∨ k = 5) with rfl | rfl | rfl | rfl | rfl | rfl
      all_goals (
        simp only [actB] at c0
        go_enter Yba.func36, Yba.ntmps36
        go_wp2
        go_ret
        exact ⟨by simp [rdB, hp1.out], rfl⟩)
    · replace hi := fun h => e2 (hi.1 h)
      have e1' : ((o.2.1 : Nat) : Int) = (t : Int) := by omega
      have hr : Hid (rdB o t j = false) := decide_eq_false (fun h => e2 ⟨by omega, by omega, h.2.1⟩)
      generalize itB o = s at *
      generalize actB o.1 = a at *
      clear e1 e2
      go_enter Yba.func36, Yba.ntmps36
      go_wp2
      go_ret
      exact ⟨by rw [hr.out]; rfl, rfl⟩
  · have e1' : ¬ ((o.2.1 : Nat) : Int) = (t : Int) := by omega
    have hr : Hid (rdB o t j = false) := decide_eq_false (fun h => e1 h.1)
    clear hi
    generalize itB o = s at *
    generalize actB o.1 = a at *
    go_enter Yba.func36, Yba.ntmps36
    go_wp2
    go_ret
    exact ⟨by rw [hr.out]; rfl, rfl⟩

theorem bw_any {g n cap p t j : Nat} {L : List O3} (w : World) (h : OpsAt w g L) (hn : L.length = n) (hp : p < n) (hj : j < 3) :
    Calls Yba.prog 35 #[.slice (some ⟨g, 0, none⟩) n cap, .int .i64 (p : Int), .int .i64 (t : Int), .string (itS j)] w fun e w' => e = .returned (.bool (wrB (L[p]'(by omega)) t j)) ∧ w' = w := by
  have hp' : (p : Int) < (n : Int) := by omega
  have c0 := h.a p (by omega)
  have c1 := h.t p (by omega)
  have c2 := h.i p (by omega)
  have ok := h.ok p (by omega)
  have hi := itB_L ok hj
  generalize hL : L[p]'(by omega) = o at c0 c1 c2 ok hi ⊢
  have hk := ok.k
  clear h hL ok
  by_cases e1 : o.2.1 = t
  · by_cases e2 : o.1 ≠ 3 ∧ o.1 ≠ 4 ∧ o.2.2 = j
    · replace hi := hi.2 e2
      obtain ⟨k, t', i⟩ := o
      simp only at e1 e2 hk c0 c1
      subst e1
      generalize itB (k, t', i) = s at *
      have hp1 : Hid (i = j) := e2.2.2
      clear e2
      rcases (by omega : k = 0 ∨ k = 1 ∨ k = 2 ∨ k = 3 ∨ k = 4 ∨ k = 5) with rfl | rfl | rfl | rfl | rfl | rfl
      all_goals (
        simp only [actB] at c0
        go_enter Yba.func35, Yba.ntmps35
        go_wp2
        go_ret
        exact ⟨by simp [wrB, hp1.out], rfl⟩)
    · replace hi := fun h => e2 (hi.1 h)
      have e1' : ((o.2.1 : Nat) : Int) = (t : Int) := by omega
      have hr : Hid (wrB o t j = false) := decide_eq_false (fun h => e2 ⟨by omega, by omega, h.2.1⟩)
      generalize itB o = s at *
      generalize actB o.1 = a at *
      clear e1 e2
      go_enter Yba.func35, Yba.ntmps35
      go_wp2
      go_ret
      exact ⟨by rw [hr.out]; rfl, rfl⟩
  · have e1' : ¬ ((o.2.1 : Nat) : Int) = (t : Int) := by omega
    have hr : Hid (wrB o t j = false) := decide_eq_false (fun h => e1 h.1)
    clear hi
    generalize itB o = s at *
    generalize actB o.1 = a at *
    go_enter Yba.func35, Yba.ntmps35
    go_wp2
    go_ret
    exact ⟨by rw [hr.out]; rfl, rfl⟩

theorem br_at {g n cap t j : Nat} {L : List O3} (w : World) (h : OpsAt w g L) (hn : L.length = n) (hj : j < 3) (p : Nat) (o : O3) (ho : L[p]? = some o) :
    Calls Yba.prog 36 #[.slice (some ⟨g, 0, none⟩) n cap, .int .i64 (p : Int), .int .i64 (t : Int), .string (itS j)] w fun e w' => e = .returned (.bool (rdB o t j)) ∧ w' = w := by
  obtain ⟨hp, rfl⟩ := List.getElem?_eq_some_iff.1 ho
  exact br_any w h hn (by omega) hj
theorem bw_at {g n cap t j : Nat} {L : List O3} (w : World) (h : OpsAt w g L) (hn : L.length = n) (hj : j < 3) (p : Nat) (o : O3) (ho : L[p]? = some o) :
    Calls Yba.prog 35 #[.slice (some ⟨g, 0, none⟩) n cap, .int .i64 (p : Int), .int .i64 (t : Int), .string (itS j)] w fun e w' => e = .returned (.bool (wrB o t j)) ∧ w' = w := by
  obtain ⟨hp, rfl⟩ := List.getElem?_eq_some_iff.1 ho
  exact bw_any w h hn (by omega) hj

end Go.Proofs.Ybulkaggi.BM

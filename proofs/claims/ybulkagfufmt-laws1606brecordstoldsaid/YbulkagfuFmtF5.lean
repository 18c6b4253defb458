import Derived.Test.YbulkagfuFmtF4
namespace Go.Proofs.YbulkagfuFmt
open Go.RowKit Go.WideMaps Go.Maps Go.Extern.Stop Go.Stop Go.Extern
set_option linter.unusedVariables false
set_option maxRecDepth 100000

/-- What the map of recordings reads as behind k rounds. -/
def DR (R : Nat → Nat) : Nat → DataW Unit
  | 0 => .map []
  | k + 1 => (DR R k).put (klit (k + 1)) (.lit (.int .i64 (R k : Nat)))
theorem DR_map (R : Nat → Nat) : ∀ k, IsMap (DR R k)
  | 0 => isMap_empty
  | k + 1 => (DR_map R k).put _ _
theorem klit_key (i : Nat) : WideAt.IsKeyLit (klit i) := by simp [klit, WideAt.IsKeyLit]

/-- The keys that are there are the records'. -/
theorem DR_at (R : Nat → Nat) : ∀ k, k ≤ 4 → ∀ kl (y : DataW Unit), (∀ zd, (DR R k).atKey kl zd = y) → ∃ i, i < k ∧ kl = klit (i + 1) ∧ y = .lit (.int .i64 (R i : Nat))
  | 0, _, kl, y, h => by
    have h1 := h (.lit (.bool true))
    have h2 := h (.lit (.bool false))
    simp [DR, DataW.atKey] at h1 h2
    rw [← h1] at h2
    simp at h2
  | k + 1, hk, kl, y, h => by
    by_cases e : kl = klit (k + 1)
    · subst e
      have h1 := h (.lit (.bool true))
      simp only [DR] at h1
      rw [atKey_put_same (DR_map R k) (klit_key _)] at h1
      exact ⟨k, by omega, rfl, h1.symm⟩
    · obtain ⟨i, h1, h2, h3⟩ := DR_at R k (by omega) kl y (fun zd => by
        have h1 := h zd
        simp only [DR] at h1
        rwa [atKey_put_other e] at h1)
      exact ⟨i, by omega, h2, h3⟩
theorem DR_has (R : Nat → Nat) : ∀ k, k ≤ 4 → ∀ i, i < k → Maps.has (DR R k) (klit (i + 1)) = true
  | 0, _, i, h => absurd h (by omega)
  | k + 1, hk, i, h => by
    simp only [DR]
    by_cases e : i = k
    · subst e
      exact has_put_same (DR_map R i) (klit_key _) _
    · rw [has_put_other (fun h' => e (by have := klit_inj (i + 1) (k + 1) (by omega) (by omega) h'; omega))]
      exact DR_has R k (by omega) i (by omega)

end Go.Proofs.YbulkagfuFmt

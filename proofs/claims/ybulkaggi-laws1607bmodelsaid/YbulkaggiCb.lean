import Derived.Test.YbulkaggiCa
namespace Go.Proofs.Ybulkaggi.CE
open Go.RowKit Go.WideMaps Go.Maps
set_option linter.unusedVariables false
set_option maxRecDepth 100000

def cmpI (a b : Int) : Int := if a < b then -1 else if b < a then 1 else 0
theorem nan_any (a : Int) (w : World) : Calls Yba.prog 118 #[.int .u64 a] w fun e w' => e = .returned (.bool false) ∧ w' = w := by
  go_enter Yba.func118, Yba.ntmps118
  go_wp2
  go_ret
  exact ⟨by simp, rfl⟩
theorem cmp_any (a b : Int) (w : World) : Calls Yba.prog 92 #[.int .u64 a, .int .u64 b] w fun e w' => e = .returned (.int .i64 (cmpI a b)) ∧ w' = w := by
  by_cases h1 : a < b
  · go_enter Yba.func92, Yba.ntmps92
    go_wp2_with (go_at_call 118; refine (nan_any _ _).mono ?_; rintro e w' ⟨rfl, rfl⟩)
    go_ret
    exact ⟨by simp [cmpI, h1], rfl⟩
  · by_cases h2 : b < a
    · go_enter Yba.func92, Yba.ntmps92
      go_wp2_with (go_at_call 118; refine (nan_any _ _).mono ?_; rintro e w' ⟨rfl, rfl⟩)
      go_ret
      exact ⟨by simp [cmpI, h1, h2], rfl⟩
    · go_enter Yba.func92, Yba.ntmps92
      go_wp2_with (go_at_call 118; refine (nan_any _ _).mono ?_; rintro e w' ⟨rfl, rfl⟩)
      go_ret
      have e3 : cmpI a b = 0 := by
        unfold cmpI
        rw [if_neg (by omega), if_neg (by omega)]
      exact ⟨by rw [e3]; rfl, rfl⟩
theorem first1_any (B : Nat) (a t : Int) (w : World) (hc : w.cell? ⟨B, 1, none⟩ = some (.int .u64 a)) : Calls Yba.prog 91 #[Pp B, .int .u64 t] w fun e w' => e = .returned (.int .i64 (cmpI a t)) ∧ w' = w := by
  go_enter Yba.func91, Yba.ntmps91
  go_wp2_with (go_at_call 92; refine (cmp_any _ _ _).mono ?_; rintro e w' ⟨rfl, rfl⟩)
  go_ret
  exact ⟨rfl, rfl⟩

/-- Where the first running transaction from ts on stands. -/
structure Pos (L : List Nat) (t : Int) (i : Nat) : Prop where
  le : i ≤ L.length
  lo : ∀ k (h : k < L.length), k < i → (L[k] : Int) + 1 < t
  hi : ∀ k (h : k < L.length), i ≤ k → t ≤ (L[k] : Int) + 1

def BsPost (L : List Nat) (t : Int) (w : World) (e : Ending) (w' : World) : Prop := ∃ i b, e = .returned (.tuple #[.int .i64 (i : Nat), .bool b]) ∧ Pos L t i ∧ w' = w
set_option maxHeartbeats 2000000 in
theorem bsearch_any {N : Nat} {w : World} {v : Value} {L : List Nat} {tb : Nat → Nat} (t : Int) (hrow : w.ownsRow N 53 1 v L.length (L.map fun x => Pp (tb x))) (hlen : L.length ≤ 64) (hts : ∀ x ∈ L, w.cell? ⟨tb x, 1, none⟩ = some (.int .u64 ((x : Int) + 1))) (hs : L.Pairwise (· < ·)) :
    Calls Yba.prog 90 #[v, .int .u64 t, .func (.func 91) #[] #[]] w (BsPost L t w) := by
  obtain ⟨a, c, hv⟩ := sl_shape hrow
  rw [hv] at hrow ⊢
  have hcell : ∀ k (h : k < L.length), ∃ g, a = some ⟨g, 0, none⟩ ∧ w.cell? ⟨g, k, none⟩ = some (Pp (tb L[k])) := fun k h => by
    rcases hrow.2 with ⟨_, h0⟩ | ⟨g, cap, cur, e, _⟩
    · omega
    · have ea : a = some ⟨g, 0, none⟩ := by cases e; rfl
      subst ea
      refine ⟨g, rfl, ?_⟩
      rw [hrow.cellAt k (by omega)]
      simp [h]
  have HC := hide hcell
  have HT := hide hts
  have HS := hide hs
  clear hcell hts hs hrow hv
  obtain ⟨n, hn⟩ : ∃ n, L.length = n := ⟨_, rfl⟩
  rw [hn] at hlen ⊢
  have HN := hide hn
  clear hn
  go_enter Yba.func90, Yba.ntmps90
  go_wp2
  go_loopw [9, 10] (fun p q wr => ∃ i j : Nat, i ≤ j ∧ j ≤ n ∧ p = .int .i64 (i : Int) ∧ q = .int .i64 (j : Int) ∧ (∀ k (h : k < L.length), k < i → (L[k] : Int) + 1 < t) ∧ (∀ k (h : k < L.length), j ≤ k → t ≤ (L[k] : Int) + 1) ∧ wr = w) (fun p q _ => (intOf q).toNat - (intOf p).toNat)
  case atStart => exact ⟨0, n, Nat.zero_le _, Nat.le_refl _, rfl, rfl, fun k h h' => absurd h' (by omega), fun k h h' => absurd h (by have := HN.out; omega), rfl⟩
  case round =>
    obtain ⟨i, j, hij, hjn, rfl, rfl, hlo, hhi, rfl⟩ := hrel
    have HL := hide hlo
    have HH := hide hhi
    clear hlo hhi
    by_cases hlt : i < j
    · have hlt' : (i : Int) < (j : Int) := by omega
      obtain ⟨m, hmm⟩ : ∃ m, (i + j) / 2 = m := ⟨_, rfl⟩
      have hm : ((i : Int) + (j : Int)) / 2 = (m : Int) := by omega
      have him : i ≤ m := by omega
      have hmj : m < j := by omega
      have hmn : m < n := by omega
      obtain ⟨g, rfl, c1⟩ := HC.out m (by have := HN.out; omega)
      have c2 := HT.out _ (List.getElem_mem (show m < L.length by have := HN.out; omega))
      obtain ⟨z, hz⟩ : ∃ z, L[m]'(by have := HN.out; omega) = z := ⟨_, rfl⟩
      rw [hz] at c1 c2
      have HZ := hide hz
      clear hz hmm
      by_cases hc : (z : Int) + 1 < t
      · have hcm : cmpI ((z : Int) + 1) t < 0 := by simp [cmpI, hc]
        go_wp2_with (go_at_call 91; refine (first1_any _ _ _ _ c2).mono ?_; rintro e w' ⟨rfl, rfl⟩)
        refine ⟨⟨m + 1, j, by omega, hjn, by simp, rfl, fun k hk hk' => ?_, HH.out, trivial⟩, by simp [intOf]; omega⟩
        have hz := HZ.out
        by_cases e : k = m
        · subst e
          rw [hz]
          exact hc
        · have := List.pairwise_iff_getElem.1 HS.out k m hk (by have := HN.out; omega) (by omega)
          rw [hz] at this
          omega
      · have hcm : ¬ cmpI ((z : Int) + 1) t < 0 := by simp [cmpI, hc]; split <;> omega
        go_wp2_with (go_at_call 91; refine (first1_any _ _ _ _ c2).mono ?_; rintro e w' ⟨rfl, rfl⟩)
        refine ⟨⟨i, m, him, by omega, rfl, rfl, HL.out, fun k hk hk' => ?_, trivial⟩, by simp [intOf]; omega⟩
        have hz := HZ.out
        by_cases e : k = m
        · subst e
          rw [hz]
          omega
        · have := List.pairwise_iff_getElem.1 HS.out m k (by have := HN.out; omega) hk (by omega)
          rw [hz] at this
          omega
    · obtain rfl : i = j := by omega
      have hlt' : ¬ (i : Int) < (i : Int) := by omega
      by_cases hin : i < n
      · have hin' : (i : Int) < (n : Int) := by omega
        obtain ⟨g, rfl, c1⟩ := HC.out i (by have := HN.out; omega)
        have c2 := HT.out _ (List.getElem_mem (show i < L.length by have := HN.out; omega))
        generalize L[i]'(by have := HN.out; omega) = z at c1 c2
        go_wp2_with (go_at_call 91; refine (first1_any _ _ _ _ c2).mono ?_; rintro e w' ⟨rfl, rfl⟩)
        go_ret2
        exact ⟨i, _, rfl, ⟨by have := HN.out; omega, HL.out, HH.out⟩, rfl⟩
      · have hin' : ¬ (i : Int) < (n : Int) := by omega
        go_wp2
        go_ret2
        exact ⟨i, _, rfl, ⟨by have := HN.out; omega, HL.out, HH.out⟩, rfl⟩

/-! ### firstFrom, runningAbove -/
def FfPost (L : List Nat) (t : Int) (w : World) (e : Ending) (w' : World) : Prop := ∃ i : Nat, e = .returned (.int .i64 (i : Nat)) ∧ Pos L t i ∧ w' = w
theorem first_any {N : Nat} {D : List Nat} {T : Nat} {w : World} {S : St} (h : Rel N D T w S) (t : Int) (hlen : (S.ql 64).length ≤ 64) (hts : ∀ x ∈ S.ql 64, w.cell? ⟨S.tb x, 1, none⟩ = some (.int .u64 ((x : Int) + 1))) (hs : (S.ql 64).Pairwise (· < ·)) :
    Calls Yba.prog 67 #[Pp T, .int .u64 t] w (FfPost (S.ql 64) t w) := by
  have C := hide (bsearch_any t (h.q.own 64 (.inr rfl)) hlen hts hs)
  have c1 : w.cell? ⟨T, 4, none⟩ = some (S.Q 64) := (cell_at h.t.at_ 4).trans rfl
  clear h hlen hts hs
  go_enter Yba.func67, Yba.ntmps67
  go_upto_region 2 with fail
  refine C.out.mono ?_
  rintro e w' ⟨i, b, rfl, hp, rfl⟩
  have HP := hide hp
  clear hp
  go_wp2
  go_ret
  exact ⟨i, rfl, HP.out, rfl⟩

end Go.Proofs.Ybulkaggi.CE

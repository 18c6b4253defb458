import Derived.Test.YbulkaggiBk
namespace Go.Proofs.Ybulkaggi.BM
open Go.RowKit Go.Proofs.Ybulkaggi Go.Sort Go.Shelf Go.Lib
open Go.Proofs.Ybulkaggi.CE (hlt tag_ne own_tag own_keep size_set grown_alloc grown_drewN grown_cell grown_none grown_setCells)
set_option linter.unusedVariables false
set_option maxRecDepth 100000

/-- The closure, wherever it is called while one row is turned. -/
def CloAt (w : World) (g bx : Nat) (del : RunV → Bool) (M : List RunV) : Prop := ∀ x ∈ M, ∀ w' : World, w.grownBy w' (some g) → Calls Yba.prog 61 #[.agg (encR x).toArray, Pp bx] w' (CPost w' (del x))

def IxPost (M : List RunV) (del : RunV → Bool) (w : World) (e : Ending) (w' : World) : Prop := ∃ r : Int, e = .returned (.int .i64 r) ∧ ((r = -1 ∧ ∀ x ∈ M, del x = false) ∨ ∃ i : Nat, r = (i : Int) ∧ ∃ h : i < M.length, del M[i] = true ∧ ∀ k (hk : k < M.length), k < i → del M[k] = false) ∧ w.grownBy w' none
theorem index_run {N : Nat} (g c bx n : Nat) (M : List RunV) (del : RunV → Bool) (w : World) (h : RR N w g c M) (hn : M.length = n) (h256 : n ≤ 256) (hc : CloAt w g bx del M) :
    Calls Yba.prog 88 #[.slice (some ⟨g, 0, none⟩) n c, .func (.func 61) #[] #[Pp bx]] w (IxPost M del w) := by
  have H := hide h
  have HC := hide hc
  have HN := hide hn
  clear h hc hn
  go_enter Yba.func88, Yba.ntmps88
  go_wp2
  go_loopw [8] (fun q wr => ∃ k : Nat, k ≤ n ∧ q = .int .i64 (k : Int) ∧ (∀ t (ht : t < M.length), t < k → del M[t] = false) ∧ w.grownBy wr none) (fun q _ => n - (intOf q).toNat)
  case atStart => exact ⟨0, Nat.zero_le _, rfl, fun t _ h => by omega, World.grownBy.refl _ _⟩
  case round =>
    obtain ⟨k, hk, rfl, hal, hg⟩ := hrel
    have HG := hide hg
    have HA := hide hal
    clear hg hal
    by_cases hkn : k < n
    · have hkn' : (k : Int) < (n : Int) := by omega
      have hkm : k < M.length := by rw [HN.out]; exact hkn
      obtain ⟨d1, d2⟩ := (H.out.grown HG.out).at_ hkm
      have C := hide (HC.out M[k] (List.getElem_mem hkm) wr (HG.out.but _))
      unfold encR at C
      obtain ⟨b, hb⟩ : ∃ b, del M[k] = b := ⟨_, rfl⟩
      rw [hb] at C
      have HB := hide hb
      clear hb
      generalize M[k].tb = B at *
      generalize Value.slice (some ⟨M[k].g, M[k].o, none⟩) M[k].A.length M[k].c = sv at *
      go_upto_region 4 with fail
      cases b with
      | true =>
        go_wp2_with (go_at_call 61; refine C.out.mono ?_; rintro e w' ⟨rfl, hg2⟩; have HG2 := hide hg2; clear hg2)
        go_ret
        exact ⟨_, rfl, .inr ⟨k, rfl, hkm, HB.out, HA.out⟩, grown_none HG.out HG2.out⟩
      | false =>
        go_wp2_with (go_at_call 61; refine C.out.mono ?_; rintro e w' ⟨rfl, hg2⟩; have HG2 := hide hg2; clear hg2)
        refine ⟨⟨k + 1, by omega, by simp, fun t ht h' => ?_, grown_none HG.out HG2.out⟩, by simp [intOf]; omega⟩
        by_cases e : t = k
        · subst e; exact HB.out
        · exact HA.out t ht (by omega)
    · have hkn' : ¬ (k : Int) < (n : Int) := by omega
      go_wp2
      go_ret
      refine ⟨_, rfl, .inl ⟨rfl, fun x hx => ?_⟩, HG.out⟩
      obtain ⟨t, ht, rfl⟩ := List.mem_iff_getElem.1 hx
      exact HA.out t ht (by have := HN.out; omega)
theorem index_run_nil (f : Value) (w : World) :
    Calls Yba.prog 88 #[.slice none 0 0, f] w fun e w' => e = .returned (.int .i64 (-1)) ∧ w' = w := by
  go_enter Yba.func88, Yba.ntmps88
  go_wp2
  go_loopw [8] (fun q wr => q = .int .i64 0 ∧ wr = w) (fun q _ => 0)
  case atStart => exact ⟨rfl, rfl⟩
  case round =>
    obtain ⟨rfl, rfl⟩ := hrel
    go_wp2
    go_ret
    exact ⟨rfl, rfl⟩
theorem del_run_nil (f : Value) (w : World) :
    Calls Yba.prog 60 #[.slice none 0 0, f] w fun e w' => e = .returned (.slice none 0 0) ∧ w' = w := by
  have C := hide (index_run_nil f w)
  go_enter Yba.func60, Yba.ntmps60
  go_upto_region 2 with fail
  refine C.out.mono ?_
  rintro e w' ⟨rfl, rfl⟩
  go_wp2
  go_ret
  exact ⟨rfl, rfl⟩
end Go.Proofs.Ybulkaggi.BM

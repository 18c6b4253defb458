import Derived.Test.YbulkaggiCg
import Derived.Laws.IdiomRangeMap
namespace Go.Proofs.Ybulkaggi.CE
open Go.RowKit Go.WideMaps Go.Maps
set_option linter.unusedVariables false
set_option maxRecDepth 100000

/-! ### The names that a transaction alone wrote -/
def unitElem {H : Type} : Value → Option (DataW H × List MemPlace)
  | .agg ⟨[]⟩ => some (.nil, [])
  | _ => none
theorem unitElem_mk {H : Type} : unitElem (H := H) (.agg #[]) = some (.nil, []) := rfl
theorem unitElem_inv {H : Type} {v : Value} {y : DataW H × List MemPlace} (h : unitElem v = some y) : v = .agg #[] := by
  unfold unitElem at h
  split at h
  · rfl
  · cases h
def UM (w : World) (b : Nat) : Prop := ∃ n, ∃ Dm : DataW Unit, w.ownsMap Yba.prog 9 unitElem b n Dm ∧ ∀ kl, Maps.has Dm kl = true → ∃ j, j < 3 ∧ kl = klS j
theorem UM.keep {w w' : World} {b : Nat} (h : UM w b) (hb : w'.heap[b]? = w.heap[b]?) : UM w' b := by
  obtain ⟨n, Dm, h1, h2⟩ := h
  exact ⟨n, Dm, map_keep h1 hb, h2⟩
theorem UM.at_ {w : World} {b : Nat} (h : UM w b) : ∃ es c, w.heap[b]? = some (.map es c) := by
  obtain ⟨n, Dm, h1, h2⟩ := h
  exact map_at h1
theorem UM.made (w : World) : UM (w.alloc (.map #[] 0)) w.heap.size := ⟨0, .map [], World.ownsMap_made w _ _ _, fun kl hk => by simp [Maps.has] at hk⟩
theorem UM.put {w : World} {b : Nat} (h : UM w b) {j : Nat} (hj : j < 3) : ∃ w', (Instr.mapUpdate 63 (.map (some b)) (.string (nm j)) (.agg #[])).run Yba.prog w = .ok () w' ∧ UM w' b ∧ w.grownBy w' (some b) := by
  obtain ⟨n, Dm, h1, h2⟩ := h
  have hT := h1.tidy key9
  have hsz := size3 (h1.canon key9) hT h2
  have h1' : w.ownsMap Yba.prog 9 unitElem b (Maps.size Dm) Dm := by
    obtain ⟨es, cl, a1, a2, a3, a4⟩ := h1
    exact ⟨es, cl, a1, a2, by rw [a4]; simp [Maps.size, length_sorted], a4⟩
  obtain ⟨w', hr, g1, g2⟩ := h1'.store key9 Yba.underlying63 (by unfold maxLen; omega) (keyS j) unitElem_mk
  refine ⟨w', hr, ⟨_, _, g1, fun kl hk => ?_⟩, g2.grown⟩
  by_cases e : kl = klS j
  · subst e
    exact ⟨j, hj, rfl⟩
  · rw [has_put_other e] at hk
    exact h2 kl hk
theorem ranges_keep {H : Type} {P : Program} {k : TypeId} {R : Value → Option (DataW H × List MemPlace)} {w w' : World} {b r n : Nat} {D : DataW H} {left : Lit → Bool} {cnt : Nat} (h : w.ranges P k R b r n D left cnt) (hb : w'.heap[b]? = w.heap[b]?) (hr : w'.heap[r]? = w.heap[r]?) : w'.ranges P k R b r n D left cnt := by
  obtain ⟨es, clock, since, seen, c0, h1, F, hs, hD, h2, rest⟩ := h
  exact ⟨es, clock, since, seen, c0, hb.trans h1, F, hs, hD, hr.trans h2, rest⟩

/-! ### share -/
/-- Items, and what was written, may turn. -/
def Sh (S S' : St) : Prop := S' = { S with im := S'.im, its := S'.its, rd := S'.rd, wn := S'.wn, wr := S'.wr, W := S'.W, wl := S'.wl }
theorem Sh.refl (S : St) : Sh S S := rfl
theorem Sh.trans {A B C : St} (h : Sh A B) (k : Sh B C) : Sh A C := by
  unfold Sh at *
  rw [h] at k
  exact k
theorem Grew.sh {S S' : St} (g : Grew S S') : Sh S S' := by
  unfold Sh
  have e := g.same
  have e1 : S'.W = S.W := by rw [e]
  have e2 : S'.wl = S.wl := by rw [e]
  rw [e1, e2]
  exact e
theorem WStep.sh {S S' : St} {x i : Nat} (g : WStep S S' x i) : Sh S S' := by
  rcases g with ⟨h, e⟩ | ⟨h, v, e⟩
  · subst e; rfl
  · subst e; rfl
def SharePost (N : Nat) (D : List Nat) (T : Nat) (w : World) (S : St) (x c : Nat) (e : Ending) (w' : World) : Prop :=
  e = .returned (.tuple #[]) ∧ ∃ S', Rel N D T w' S' ∧ Fr N D w w' ∧ Inv (c + 3) S' ∧ Sh { S with M := upd S.M x none } S'
theorem Inv.setM {c : Nat} {S : St} (I : Inv c S) (M' : Nat → Option Nat) : Inv c { S with M := M' } := ⟨I.lt, I.q1, I.q2, I.q3, I.w1, I.w2, I.w3, I.r1, I.cw, I.cg⟩
theorem Sh.setM {A B : St} (h : Sh A B) (x : Nat) : Sh { A with M := upd A.M x none } { B with M := upd B.M x none } := by
  unfold Sh at *
  have e : B.M = A.M := by rw [h]
  rw [e]
  rw [h]

theorem share_nil {N : Nat} {D : List Nat} {T : Nat} {w : World} {S : St} (h : Rel N D T w S) {c : Nat} (I : Inv c S) {x : Nat} (hx : x ∈ S.hs) (hM : S.M x = none) :
    Calls Yba.prog 39 #[Pp T, Pp (S.tb x)] w (SharePost N D T w S x c) := by
  have c3 : w.cell? ⟨S.tb x, 3, none⟩ = some (.map none) := by rw [cell_at (h.x.at_ x hx), hM]; rfl
  have z3 := free_at (h.x.at_ x hx) 3
  have lx := hlt (h.x.at_ x hx)
  have hrg := run_range_nilMap (P := Yba.prog) w 63 9 113 Yba.underlying63
  have hnx : ∀ ty, (Instr.next (.pointer (some ⟨w.heap.size, 0, none⟩)) false ty).run Yba.prog (w.alloc (.mapIter none 0 #[] 0)) = _ := fun ty => run_next_nilMap w ty 0 0 #[]
  have HP : Hid (SharePost N D T w S x c (.returned (.tuple #[])) ((w.setCell ⟨S.tb x, 3, none⟩ (.map none)).alloc (.mapIter none 0 #[] 0))) := by
    obtain ⟨g1, g2⟩ := h.setM hx none
    exact ⟨rfl, _, g1.alloc _, g2.trans (Fr.alloc g1.low _), (I.setM _).mono (by omega), Sh.refl _⟩
  clear h I hM hx
  generalize S.tb x = B at *
  go_enter Yba.func39, Yba.ntmps39
  go_wp2
  refine wp_loop_rounds 1 ?_
  rw [rounds_succ]
  go_wp2
  go_end0
  exact HP.out

set_option maxHeartbeats 1000000 in
theorem share_some {N : Nat} {D : List Nat} {T : Nat} {w : World} {S : St} (h : Rel N D T w S) {c : Nat} (I : Inv c S) (hc : c + 3 ≤ 100000) {x mb : Nat} (hx : S.hs = [x]) (hM : S.M x = some mb) (hD : mb ∈ D) (um : UM w mb) :
    Calls Yba.prog 39 #[Pp T, Pp (S.tb x)] w (SharePost N D T w S x c) := by
  have hx' : x ∈ S.hs := by rw [hx]; simp
  have c3 : w.cell? ⟨S.tb x, 3, none⟩ = some (.map (some mb)) := by rw [cell_at (h.x.at_ x hx'), hM]; rfl
  obtain ⟨n, Dm, um1, um2⟩ := um
  have hsz := size3 (um1.canon key9) (um1.tidy key9) um2
  have H := hide h
  have II := hide I
  have U2 := hide um2
  have HX := hide hx
  have HX' := hide hx'
  clear h I um2 hx hx' hM
  obtain ⟨B, hB⟩ : ∃ B, S.tb x = B := ⟨_, rfl⟩
  rw [hB] at c3 ⊢
  go_enter Yba.func39, Yba.ntmps39
  go_wp2_with (at_range; refine wpList_range_own _ rfl _ 63 rfl 9 113 key9 Yba.underlying63 unitElem mb n Dm rfl um1 ?_; intro w0 hrg0 hg0 hs0)
  go_frame
  have hrel0 : Rel N (w.heap.size :: D) T w0 S := H.out.fresh hg0.size (fun t x xs hx => hg0.block x (hlt hx) (by simp)) (fun x es c hx => hg0.block x (hlt hx) (by simp)) (Nat.le_refl _) (by omega)
  have hfr0 : Fr N D w w0 := Fr.grown H.out.low hg0 (fun k e => by cases e)
  have hrn : ¬ Pd N D w.heap.size := not_new H.out.low (Nat.le_refl _)
  generalize w.heap.size = r at hrg0 hrel0 hrn ⊢
  have R0 := hide hrel0
  have F0 := hide hfr0
  have G0 := hide hrg0
  clear hrel0 hfr0 hrg0 hg0 hs0 um1
  go_loopw [4] (fun _ wx => ∃ (left : Lit → Bool) (cnt d : Nat) (A : St), wx.ranges Yba.prog 9 unitElem mb r n Dm left cnt ∧ (∀ kl, left kl = true → Maps.has Dm kl = true) ∧ d + cnt ≤ 3 ∧ Rel N (r :: D) T wx A ∧ Fr N D w wx ∧ Inv (c + d) A ∧ Sh S A) (fun _ wx => wx.rangeLeft mb r)
  case atStart => exact ⟨_, _, 0, S, G0.out, fun _ h => h, by omega, R0.out, F0.out, II.out, Sh.refl _⟩
  case round =>
    obtain ⟨left, cnt, d, A, hrg, hleft, hd, hA, hF, hI, hS⟩ := hrel
    have eh : A.hs = S.hs := by rw [hS]
    have eb : A.tb = S.tb := by rw [hS]
    have hxA : x ∈ A.hs := by rw [eh]; exact HX'.out
    have a3 : ∃ v, wr.cell? ⟨B, 3, none⟩ = some v := ⟨_, by rw [← hB, ← eb]; exact (cell_at (hA.x.at_ x hxA) 3)⟩
    obtain ⟨v3, a3⟩ := a3
    have z3 : wr.frozen? ⟨B, 3, none⟩ = false := by rw [← hB, ← eb]; exact free_at (hA.x.at_ x hxA) 3
    have HA := hide hA
    have HF := hide hF
    have HI := hide hI
    have HS := hide hS
    have HL := hide hleft
    clear hA hF hI hS hleft
    go_wp2_with (at_next; refine wpList_next_ranges _ rfl _ rfl 9 key9 unitElem (fun s : ByteArray => Value.string s) (fun _ : Unit => Value.agg #[]) (fun key kl hk => by obtain ⟨s, h1, _⟩ := string_of_keyOf Yba.underlying9 hk; exact ⟨s, h1⟩) (fun v y hv => ⟨(), unitElem_inv hv⟩) mb r n _ _ _ rfl hrg ?_ ?_)
    · intro hc0 hl0
      have HP : Hid (SharePost N D T w S x c (.returned (.tuple #[])) (wr.setCell ⟨B, 3, none⟩ (.map none))) := by
        obtain ⟨g1, g2⟩ := (HA.out.less (D := D) (fun k hk => List.mem_cons_of_mem _ hk)).setM hxA none
        rw [(by rw [eb, hB] : A.tb x = B)] at g1 g2
        exact ⟨rfl, _, g1, HF.out.trans g2, (HI.out.setM _).mono (by omega), HS.out.setM x⟩
      clear hc0 hl0 hrg
      go_wp2
      go_end0
      exact HP.out
    · intro s kl ya yb w1 cnt1 hkey hlk hv hatk hrg1 hlt1 hgr hsz1 hen
      obtain ⟨j, hj, hkl⟩ := U2.out kl (HL.out kl hlk)
      have hs : s = nm j := by
        obtain ⟨s', e1, e2, _⟩ := string_of_keyOf Yba.underlying9 hkey
        cases e1
        rw [hkl] at e2
        simp only [klS, Lit.string.injEq] at e2
        cases s with
        | mk a => cases a with
          | mk l => simp at e2; subst e2; rfl
      subst hs
      have hne : ∀ k, ¬ Pd N (r :: D) k → k ≠ r := fun k h e => h (.inr (by simp [e]))
      have hA1 : Rel N (r :: D) T w1 A := HA.out.outside (by omega) (fun k hk hn => hgr.block k hk (fun e => hne k hn (Option.some.inj e)))
      have hF1 : Fr N D wr w1 := Fr.grown (fun k hk => HA.out.low k (by rcases hk with h | h; exact .inl h; exact .inr (List.mem_cons_of_mem _ h))) hgr (fun k e => by cases e; exact hrn)
      have C42 := hide (item_any hA1 hj)
      have F1 := hide hF1
      have RG := hide hrg
      have RG1 := hide hrg1
      have LT := hide hlt1
      have eB : A.tb x = B := by rw [eb, hB]
      clear hrg hrg1 hA1 hF1 hgr hkey hv hatk hlt1 hlk hkl hsz1
      go_wp2_with (first
        | (go_at_call 42; refine C42.out.mono ?_; rintro e w2 ⟨i, rfl, A2, p1, p2, p3, p4⟩; have P := hide (And.intro p1 (And.intro p2 (And.intro p3 p4))); have C66' := (write_any (x := x) p1 (by rw [p3.sh]; exact hxA) p4 (fun y e => ((p3.inv HI.out).w1 i p4 y e).1) (Nat.le_trans ((p3.inv HI.out).cw x (by rw [p3.sh]; exact hxA)) (by omega))); rw [(by rw [p3.sh]; exact eB : A2.tb x = B)] at C66'; have C66 := hide C66'; clear C66' p1 p2 p3 p4)
        | (go_at_call 66; refine C66.out.mono ?_; rintro e w3 ⟨rfl, A3, q1, q2, q3⟩; have Q := hide (And.intro q1 (And.intro q2 q3)); clear q1 q2 q3))
      obtain ⟨p1, p2, p3, p4⟩ := P.out
      obtain ⟨q1, q2, q3⟩ := Q.out
      have I2 := p3.inv HI.out
      have ehs : A2.hs = [x] := by rw [p3.sh]; show A.hs = _; rw [eh]; exact HX.out
      have I3 := q3.inv I2 (by rw [ehs]; simp) p4 (by
        cases ew : A2.wr i with
        | none => exact .inl rfl
        | some y =>
          have := (I2.w1 i p4 y ew).1
          rw [ehs] at this
          simp at this
          exact .inr (by rw [this]))
      have fr : Fr N (r :: D) w1 w3 := p2.trans q2
      have hk1 := ranges_keep RG1.out (fr.block mb (.inr (by simp [hD]))) (fr.block r (.inr (by simp)))
      go_roundw
      case rel =>
        refine ⟨_, cnt1, d + 1, A3, hk1, fun kl h => HL.out kl (by simp at h; exact h.1), by have := LT.out; omega, q1, (HF.out.trans F1.out).trans (fr.mono (fun k hk => List.mem_cons_of_mem _ hk)), I3, (HS.out.trans p3.sh).trans q3.sh⟩
      case measure =>
        rw [hk1.left_eq, RG.out.left_eq]
        exact LT.out

theorem share_any {N : Nat} {D : List Nat} {T : Nat} {w : World} {S : St} (h : Rel N D T w S) {c : Nat} (I : Inv c S) (hc : c + 3 ≤ 100000) {x : Nat} (hx : S.hs = [x]) (um : ∀ b, S.M x = some b → b ∈ D ∧ UM w b) :
    Calls Yba.prog 39 #[Pp T, Pp (S.tb x)] w (SharePost N D T w S x c) := by
  cases e : S.M x with
  | none => exact share_nil h I (by rw [hx]; simp) e
  | some b => exact share_some h I hc hx e (um b e).1 (um b e).2

end Go.Proofs.Ybulkaggi.CE

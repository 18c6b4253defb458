import Derived.Test.YbulkaggiCl
import Derived.Test.YbulkaggiCi
namespace Go.Proofs.Ybulkaggi.CE
open Go.RowKit Go.WideMaps Go.Maps
set_option linter.unusedVariables false
set_option maxRecDepth 100000

/-- The map of one alone is guarded, and none of the law's own blocks. -/
def Um (N : Nat) (D0 D : List Nat) (w : World) (S : St) : Prop := ∀ y b, S.al = some y → S.M y = some b → b ∈ D ∧ ¬ Pd N D0 b ∧ UM w b
structure AskRes (N : Nat) (D0 D : List Nat) (T : Nat) (w : World) (S : St) (c : Nat) (w' : World) (D' : List Nat) (S' : St) : Prop where
  rel : Rel N D' T w' S'
  sub : ∀ k ∈ D, k ∈ D'
  fr : Fr N D0 w w'
  inv : Inv (c + 1) S'
  um : Um N D0 D' w' S'
  hs : S'.hs = S.hs
  ks : S'.ks = S.ks
  l64 : S'.ql 64 = S.ql 64
  last : S'.last = S.last
  tm : S'.tm = S.tm
  al : S'.al = S.al
def AskPost (N : Nat) (D0 D : List Nat) (T : Nat) (w : World) (S : St) (c : Nat) (e : Ending) (w' : World) : Prop :=
  ∃ st : Nat, e = .returned (.int .u8 (st : Int)) ∧ (1 ≤ st ∧ st ≤ 4) ∧ ∃ D' S', AskRes N D0 D T w S c w' D' S'

theorem ask_alone {N : Nat} {D0 D : List Nat} {T : Nat} {w : World} {S : St} (h : Rel N D T w S) {c : Nat} (I : Inv c S) {x j : Nat} (hx : x ∈ S.hs) (hk : x ∈ S.ks) (hw : S.wt x = none) (hj : j < 3) (hD : ∀ k ∈ D0, k ∈ D) (hal : S.al = some x) (um : Um N D0 D w S) (b : Bool) :
    Calls Yba.prog 19 #[Pp T, .int .i64 (x : Int), .string (nm j), .bool b] w (AskPost N D0 D T w S c) := by
  have hx64 := I.lt x hx
  have C40 := hide (running_any h hx hk hw hx64 ⟨#[97, 32, 114, 101, 113, 117, 101, 115, 116]⟩)
  have c7 : w.cell? ⟨T, 7, none⟩ = some (Pp (S.tb x)) := by rw [cell_at h.t.at_, hal]; rfl
  have rq := eq_ptr_same w (S.tb x)
  have c3 : w.cell? ⟨S.tb x, 3, none⟩ = some (.map (S.M x)) := (cell_at (h.x.at_ x hx) 3).trans rfl
  have f3 := free_at (h.x.at_ x hx) 3
  have lx := hlt (h.x.at_ x hx)
  cases b with
  | false =>
    have HP : Hid (AskPost N D0 D T w S c (.returned (.int .u8 1)) w) := ⟨1, rfl, by omega, D, S, h, fun _ hk => hk, Fr.refl _ _ _, I.mono (by omega), um, rfl, rfl, rfl, rfl, rfl, rfl⟩
    clear h I hx hk hw um hal c3 f3 lx
    generalize S.tb x = B at *
    go_enter Yba.func19, Yba.ntmps19
    go_wp2_with (go_at_call 40; refine C40.out.mono ?_; rintro e w' ⟨rfl, hw'⟩; obtain rfl := hw'.symm)
    go_ret
    exact HP.out
  | true =>
    cases hM : S.M x with
    | none =>
      have h1 : Rel N (w.heap.size :: D) T (w.alloc (.map #[] 0)) S := h.newD _
      obtain ⟨h2, f2⟩ := h1.setM hx (some w.heap.size)
      rw [World.setCell_alloc_past _ _ _ _ lx] at h2 f2
      have u2 : UM ((w.setCell ⟨S.tb x, 3, none⟩ (.map (some w.heap.size))).alloc (.map #[] 0)) w.heap.size := (UM.made w).keep (by
        rw [← World.setCell_alloc_past _ _ _ _ lx]
        exact Below.heap_setCell _ ⟨S.tb x, 3, none⟩ _ w.heap.size (by show w.heap.size ≠ S.tb x; omega))
      obtain ⟨w3, r3, u3, g3⟩ := u2.put hj
      have h3 : Rel N (w.heap.size :: D) T w3 { S with M := upd S.M x (some w.heap.size) } := h2.outside g3.size (fun k hk hn => g3.block k hk (fun e => hn (.inr (by simp [Option.some.inj e]))))
      have nP : ¬ Pd N D0 w.heap.size := fun e => not_new h.low (Nat.le_refl _) (by rcases e with e | e; exact .inl e; exact .inr (hD _ e))
      have f3' : Fr N D0 w w3 := ((Fr.alloc (fun k hk => h.low k (by rcases hk with e | e; exact .inl e; exact .inr (hD _ e))) (.map #[] 0)).trans (by
        have := f2.mono (D := D0) (fun k hk => List.mem_cons_of_mem _ (hD k hk))
        exact this)).trans (Fr.grown (fun k hk => h2.low k (by rcases hk with e | e; exact .inl e; exact .inr (List.mem_cons_of_mem _ (hD _ e)))) g3 (fun k e => by cases e; exact nP))
      have HP : Hid (AskPost N D0 D T w S c (.returned (.int .u8 1)) w3) := ⟨1, rfl, by omega, _, _, h3, fun k hk => List.mem_cons_of_mem _ hk, f3', (I.setM _).mono (by omega), fun y b e1 e2 => by
        have e1' : S.al = some y := e1
        rw [hal] at e1'
        cases e1'
        have e2' : upd S.M x (some w.heap.size) x = some b := e2
        rw [upd_same] at e2'
        cases e2'
        exact ⟨by simp, nP, u3⟩, rfl, rfl, rfl, rfl, rfl, rfl⟩
      rw [hM] at c3
      have hmm := @run_makeMap Yba.prog
      have E0 := eqm63_nil
      clear h I hx hk hw um hal h1 h2 f2 u2 u3 g3 h3 nP f3' hM
      generalize S.tb x = B at *
      go_enter Yba.func19, Yba.ntmps19
      go_wp2_with (go_at_call 40; refine C40.out.mono ?_; rintro e w' ⟨rfl, hw'⟩; obtain rfl := hw'.symm)
      go_ret
      exact HP.out
    | some mb =>
      obtain ⟨u1, u2, u3⟩ := um x mb hal hM
      obtain ⟨w3, r3, u4, g3⟩ := u3.put hj
      have h3 : Rel N D T w3 S := h.outside g3.size (fun k hk hn => g3.block k hk (fun e => hn (.inr (by rw [Option.some.inj e]; exact u1))))
      have f3' : Fr N D0 w w3 := Fr.grown (fun k hk => h.low k (by rcases hk with e | e; exact .inl e; exact .inr (hD _ e))) g3 (fun k e => by cases e; exact u2)
      have HP : Hid (AskPost N D0 D T w S c (.returned (.int .u8 1)) w3) := ⟨1, rfl, by omega, D, S, h3, fun _ hk => hk, f3', I.mono (by omega), fun y b e1 e2 => by
        rw [hal] at e1
        cases e1
        rw [hM] at e2
        cases e2
        exact ⟨u1, u2, u4⟩, rfl, rfl, rfl, rfl, rfl, rfl⟩
      rw [hM] at c3
      have E0 := eqm63 mb
      clear h I hx hk hw um hal u1 u2 u3 u4 g3 h3 f3' hM
      generalize S.tb x = B at *
      go_enter Yba.func19, Yba.ntmps19
      go_wp2_with (go_at_call 40; refine C40.out.mono ?_; rintro e w' ⟨rfl, hw'⟩; obtain rfl := hw'.symm)
      go_ret
      exact HP.out

theorem ask_beside {N : Nat} {D0 D : List Nat} {T : Nat} {w : World} {S : St} (h : Rel N D T w S) {c : Nat} (I : Inv c S) (hc : c + 3 ≤ 100000) {x j : Nat} (hx : x ∈ S.hs) (hk : x ∈ S.ks) (hw : S.wt x = none) (hj : j < 3) (hD : ∀ k ∈ D0, k ∈ D) (hal : S.al = none) (b : Bool) :
    Calls Yba.prog 19 #[Pp T, .int .i64 (x : Int), .string (nm j), .bool b] w (AskPost N D0 D T w S c) := by
  have hx64 := I.lt x hx
  have C40 := hide (running_any h hx hk hw hx64 ⟨#[97, 32, 114, 101, 113, 117, 101, 115, 116]⟩)
  have c7 : w.cell? ⟨T, 7, none⟩ = some (.pointer none) := by rw [cell_at h.t.at_, hal]; rfl
  have rq : (binOp .eql 53 (Pp (S.tb x)) (.pointer none)).run Yba.prog w = .ok (.bool false) w := by kernel_rfl
  have C42 := hide (item_any h hj)
  have HS : Hid (∀ w1 S1 i, Rel N D T w1 S1 → Grew S S1 → i ∈ S1.its → Calls Yba.prog 41 #[Pp T, Pp (S.tb x), .agg #[Pp i, .bool b]] w1 (ServPost N D T w1 S1 x i b)) := fun w1 S1 i p1 p3 p4 => by
    have I1 := p3.inv I
    have hx1 : x ∈ S1.hs := by rw [p3.sh]; exact hx
    have e : S1.tb x = S.tb x := by rw [p3.sh]
    rw [← e]
    exact service_any p1 hx1 p4 (fun y e => (I1.w1 i p4 y e).1) I1.no64 (Nat.le_trans (I1.cw x hx1) (by omega)) (Nat.le_trans I1.cg (by omega)) (fun y hy => Nat.le_trans (I1.qlen hy) (by omega))
  have HP : Hid (∀ w1 S1 i w2 S2 st, Rel N D T w1 S1 → Fr N D w w1 → Grew S S1 → i ∈ S1.its → Rel N D T w2 S2 → Fr N D w1 w2 → SStep S1 S2 x i b st → AskPost N D0 D T w S c (.returned (.int .u8 (st : Int))) w2) := fun w1 S1 i w2 S2 st p1 p2 p3 p4 q1 q2 q3 => by
    have I1 := p3.inv I
    have hx1 : x ∈ S1.hs := by rw [p3.sh]; exact hx
    have hw1 : S1.wt x = none := by rw [p3.sh]; exact hw
    have V := q3.served I1 hx1 p4
    have al2 : S2.al = none := by rw [V.al, p3.sh]; exact hal
    refine ⟨st, rfl, q3.ok, D, S2, q1, fun _ hk => hk, (p2.trans q2).mono hD, q3.inv I1 hx1 p4 hw1, fun y b e1 => ?_, ?_, ?_, ?_, ?_, ?_, ?_⟩
    · rw [al2] at e1
      cases e1
    · rw [V.hs, p3.sh]
    · rw [V.ks, p3.sh]
    · rw [V.l64, p3.sh]
    · rw [V.last, p3.sh]
    · rw [V.tm, p3.sh]
    · rw [V.al, p3.sh]
  clear h I hx hk hw hal hc
  generalize S.tb x = B at *
  go_enter Yba.func19, Yba.ntmps19
  go_wp2_with (first
    | (go_at_call 40; refine C40.out.mono ?_; rintro e w' ⟨rfl, hw'⟩; obtain rfl := hw'.symm)
    | (go_at_call 42; refine C42.out.mono ?_; rintro e w1 ⟨i, rfl, S1, p1, p2, p3, p4⟩; have P := hide (And.intro p1 (And.intro p2 (And.intro p3 p4))); clear p1 p2 p3 p4)
    | (go_at_call 41; refine (HS.out w1 S1 i P.out.1 P.out.2.2.1 P.out.2.2.2).mono ?_; rintro e w2 ⟨st, rfl, S2, q1, q2, q3⟩; have Q := hide (And.intro q1 (And.intro q2 q3)); clear q1 q2 q3))
  go_ret
  exact HP.out w1 S1 i w2 S2 st P.out.1 P.out.2.1 P.out.2.2.1 P.out.2.2.2 Q.out.1 Q.out.2.1 Q.out.2.2

theorem ask_any {N : Nat} {D0 D : List Nat} {T : Nat} {w : World} {S : St} (h : Rel N D T w S) {c : Nat} (I : Inv c S) (hc : c + 3 ≤ 100000) {x j : Nat} (hx : x ∈ S.hs) (hks : S.ks = S.hs) (hw : S.wt x = none) (hj : j < 3) (hD : ∀ k ∈ D0, k ∈ D) (hal : ∀ y, S.al = some y → S.hs = [y]) (um : Um N D0 D w S) (b : Bool) :
    Calls Yba.prog 19 #[Pp T, .int .i64 (x : Int), .string (nm j), .bool b] w (AskPost N D0 D T w S c) := by
  cases e : S.al with
  | none => exact ask_beside h I hc hx (hks ▸ hx) hw hj hD e b
  | some y =>
    have := hal y e
    rw [this] at hx
    simp at hx
    subst hx
    exact ask_alone h I (by rw [this]; simp) (by rw [hks, this]; simp) hw hj hD e um b

end Go.Proofs.Ybulkaggi.CE

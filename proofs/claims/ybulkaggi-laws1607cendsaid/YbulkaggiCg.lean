import Derived.Test.YbulkaggiCf
namespace Go.Proofs.Ybulkaggi.CE
open Go.RowKit Go.WideMaps Go.Maps
set_option linter.unusedVariables false
set_option maxRecDepth 100000

/-! ### What is turned outside the table -/
theorem Rel.outside {N : Nat} {D : List Nat} {T : Nat} {w w' : World} {S : St} (h : Rel N D T w S) (hs : w.heap.size ≤ w'.heap.size) (hb : ∀ k, k < w.heap.size → ¬ Pd N D k → w'.heap[k]? = w.heap[k]?) : Rel N D T w' S := by
  have f : ∀ {k : Nat} {o : Obj}, w.heap[k]? = some o → ¬ Pd N D k → w'.heap[k]? = some o := fun h1 h2 => (hb _ (hlt h1) h2).trans h1
  refine ⟨fun k hk => Nat.lt_of_lt_of_le (h.low k hk) hs, Nat.le_trans h.lowN hs, ⟨f h.t.at_ h.t.ok, h.t.ok⟩, ⟨fun x hx => f (h.x.at_ x hx) (h.x.ok x hx), h.x.ok, h.x.inj⟩, ⟨fun x hx r i b e => f (h.r.at_ x hx r i b e) (h.r.ok x hx r i b e), h.r.ok⟩, ⟨fun i hi => f (h.i.at_ i hi) (h.i.ok i hi), h.i.ok⟩, ⟨fun x hx => own_keep (h.q.own x hx) (fun k hk => ?_), h.q.ok, h.q.inj⟩, ⟨fun x hx => own_keep (h.v.own x hx) (fun k hk => ?_), h.v.ok, h.v.inj⟩, ⟨own_keep h.g.own (fun k hk => ?_), h.g.ok⟩, ⟨fun b e => (h.m.fim b e).keep ?_, h.m.imok, h.m.tm0, fun b e => (h.m.ftm b e).keep ?_, h.m.tmok, h.m.ne⟩⟩
  · obtain ⟨cs, hc⟩ := own_tag (h.q.own x hx) hk
    exact (f hc (h.q.ok x hx k hk)).trans hc.symm
  · obtain ⟨cs, hc⟩ := own_tag (h.v.own x hx) hk
    exact (f hc (h.v.ok x hx k hk)).trans hc.symm
  · obtain ⟨cs, hc⟩ := own_tag h.g.own hk
    exact (f hc (h.g.ok k hk)).trans hc.symm
  · obtain ⟨es, c, hc⟩ := (h.m.fim b e).at_
    exact (f hc (h.m.imok b e)).trans hc.symm
  · obtain ⟨es, c, hc⟩ := (h.m.ftm b e).at_
    exact (f hc (h.m.tmok b e)).trans hc.symm
theorem Rel.store {N : Nat} {D : List Nat} {T : Nat} {w : World} {S : St} (h : Rel N D T w S) {b : Nat} (hb : b ∈ D) (i : Nat) (v : Value) : Rel N D T (w.setCell ⟨b, i, none⟩ v) S :=
  h.outside (by rw [size_set]; exact Nat.le_refl _) (fun k hk hn => Below.heap_setCell w ⟨b, i, none⟩ v k (fun e => hn (.inr (by simp only at e; rw [e]; exact hb))))
/-- A new block, guarded. -/
theorem Rel.newD {N : Nat} {D : List Nat} {T : Nat} {w : World} {S : St} (h : Rel N D T w S) (o : Obj) : Rel N (w.heap.size :: D) T (w.alloc o) S :=
  (h.alloc o).guard w.heap.size (by simp) (h.notNew (Nat.le_refl _))

/-! ### A transaction leaves -/
theorem Rel.retire {N : Nat} {D : List Nat} {T : Nat} {w : World} {S : St} (h : Rel N D T w S) {x : Nat} (hx : x ∈ S.hs) (hn : S.hs.Nodup) (h64 : x ≠ 64) :
    ∃ D', (∀ k ∈ D, k ∈ D') ∧ Rel N D' T w { S with hs := S.hs.erase x } ∧ S.tb x ∈ D' ∧ (∀ k, (S.W x).ownBlock = some k → k ∈ D') ∧ (∀ k, (S.Q x).ownBlock = some k → k ∈ D') := by
  have hsub : ∀ y ∈ S.hs.erase x, y ∈ S.hs ∧ y ≠ x := fun y hy => ⟨List.mem_of_mem_erase hy, fun e => by subst e; exact hn.not_mem_erase hy⟩
  have h1 : Rel N D T w { S with hs := S.hs.erase x } := h.sub (fun y hy => (hsub y hy).1)
  have tx := h.x.at_ x hx
  have h2 : Rel N (S.tb x :: D) T w { S with hs := S.hs.erase x } := by
    refine h1.guard (S.tb x) (hlt tx) ⟨tag_ne tx h.t.at_ (by decide), fun y hy e => (hsub y hy).2 (h.x.inj x hx y (hsub y hy).1 e).symm, fun y hy r i b e => tag_ne tx (h1.r.at_ y hy r i b e) (by decide), fun i hi => tag_ne tx (h.i.at_ i hi) (by decide), fun y hy e => ?_, fun y hy e => ?_, fun e => ?_, fun e => ?_, fun e => ?_⟩
    · obtain ⟨cs, hc⟩ := own_tag (h1.q.own y hy) e; exact tag_ne tx hc (by decide) rfl
    · obtain ⟨cs, hc⟩ := own_tag (h1.v.own y hy) e; exact tag_ne tx hc (by decide) rfl
    · obtain ⟨cs, hc⟩ := own_tag h.g.own e; exact tag_ne tx hc (by decide) rfl
    · obtain ⟨es, c, hc⟩ := (h.m.fim _ e).at_; rw [tx] at hc; cases hc
    · obtain ⟨es, c, hc⟩ := (h.m.ftm _ e).at_; rw [tx] at hc; cases hc
  obtain ⟨D2, e2, h3, w2⟩ : ∃ D2, (∀ k ∈ S.tb x :: D, k ∈ D2) ∧ Rel N D2 T w { S with hs := S.hs.erase x } ∧ ∀ k, (S.W x).ownBlock = some k → k ∈ D2 := by
    cases hw : (S.W x).ownBlock with
    | none => exact ⟨_, fun k hk => hk, h2, fun k e => by cases e⟩
    | some g =>
      obtain ⟨cs, tg⟩ := own_tag (h.v.own x hx) hw
      refine ⟨g :: S.tb x :: D, fun k hk => List.mem_cons_of_mem _ hk, h2.guard g (hlt tg) ⟨tag_ne tg h.t.at_ (by decide), fun y hy => tag_ne tg (h1.x.at_ y hy) (by decide), fun y hy r i b e => tag_ne tg (h1.r.at_ y hy r i b e) (by decide), fun i hi => tag_ne tg (h.i.at_ i hi) (by decide), fun y hy e => ?_, fun y hy e => ?_, fun e => ?_, fun e => ?_, fun e => ?_⟩, fun k e => by cases e; simp⟩
      · obtain ⟨cs, hc⟩ := own_tag (h1.q.own y hy) e; exact tag_ne tg hc (by decide) rfl
      · exact (hsub y hy).2 (h.v.inj y (hsub y hy).1 x hx g e hw)
      · obtain ⟨cs, hc⟩ := own_tag h.g.own e; exact tag_ne tg hc (by decide) rfl
      · obtain ⟨es, c, hc⟩ := (h.m.fim _ e).at_; rw [tg] at hc; cases hc
      · obtain ⟨es, c, hc⟩ := (h.m.ftm _ e).at_; rw [tg] at hc; cases hc
  cases hq : (S.Q x).ownBlock with
  | none => exact ⟨D2, fun k hk => e2 k (List.mem_cons_of_mem _ hk), h3, e2 _ (by simp), w2, fun k e => by cases e⟩
  | some g =>
    obtain ⟨cs, tg⟩ := own_tag (h.q.own x (.inl hx)) hq
    refine ⟨g :: D2, fun k hk => List.mem_cons_of_mem _ (e2 k (List.mem_cons_of_mem _ hk)), h3.guard g (hlt tg) ⟨tag_ne tg h.t.at_ (by decide), fun y hy => tag_ne tg (h1.x.at_ y hy) (by decide), fun y hy r i b e => tag_ne tg (h1.r.at_ y hy r i b e) (by decide), fun i hi => tag_ne tg (h.i.at_ i hi) (by decide), fun y hy e => ?_, fun y hy e => ?_, fun e => ?_, fun e => ?_, fun e => ?_⟩, List.mem_cons_of_mem _ (e2 _ (by simp)), fun k e => List.mem_cons_of_mem _ (w2 k e), fun k e => by cases e; simp⟩
    · rcases hy with hy | hy
      · exact (hsub y hy).2 (h.q.inj y x g (.inl (hsub y hy).1) (.inl hx) e hq)
      · subst hy
        exact h64 (h.q.inj 64 x g (.inr rfl) (.inl hx) e hq).symm
    · obtain ⟨cs, hc⟩ := own_tag (h1.v.own y hy) e; exact tag_ne tg hc (by decide) rfl
    · obtain ⟨cs, hc⟩ := own_tag h.g.own e; exact tag_ne tg hc (by decide) rfl
    · obtain ⟨es, c, hc⟩ := (h.m.fim _ e).at_; rw [tg] at hc; cases hc
    · obtain ⟨es, c, hc⟩ := (h.m.ftm _ e).at_; rw [tg] at hc; cases hc

/-! ### The items it wrote are given back -/
def give (commit : Bool) (S : St) (p : Nat × Int) : St := { S with wr := upd S.wr p.1 none, wn := if commit then S.wn else upd S.wn p.1 p.2 }
def gives (commit : Bool) (S : St) (l : List (Nat × Int)) : St := l.foldl (give commit) S
theorem gives_snoc (commit : Bool) (S : St) (l : List (Nat × Int)) (p : Nat × Int) : gives commit S (l ++ [p]) = give commit (gives commit S l) p := by simp [gives]
theorem gives_same (commit : Bool) : ∀ (l : List (Nat × Int)) (S : St), gives commit S l = { S with wr := (gives commit S l).wr, wn := (gives commit S l).wn }
  | [], _ => rfl
  | p :: l, S => by
    show gives commit (give commit S p) l = { S with wr := (gives commit (give commit S p) l).wr, wn := (gives commit (give commit S p) l).wn }
    rw [gives_same commit l (give commit S p)]
    rfl
theorem gives_wr (commit : Bool) : ∀ (l : List (Nat × Int)) (S : St) (i : Nat), (gives commit S l).wr i = if i ∈ l.map (·.1) then none else S.wr i
  | [], _, _ => by simp [gives]
  | p :: l, S, i => by
    show (gives commit (give commit S p) l).wr i = _
    rw [gives_wr commit l]
    by_cases h : i ∈ l.map (·.1)
    · rw [if_pos h, if_pos (by rw [List.map_cons]; exact List.mem_cons_of_mem _ h)]
    · rw [if_neg h]
      by_cases e : i = p.1
      · rw [if_pos (by simp [e])]
        show upd S.wr p.1 none i = none
        rw [e, upd_same]
      · rw [if_neg (by simp only [List.map_cons, List.mem_cons, not_or]; exact ⟨e, h⟩)]
        exact upd_other _ _ e
theorem gives_wn (commit : Bool) : ∀ (l : List (Nat × Int)) (S : St) (i : Nat), (i ∉ l.map (·.1) → (gives commit S l).wn i = S.wn i) ∧ ((l.map (·.1)).Nodup → ∀ u, (i, u) ∈ l → (gives commit S l).wn i = if commit then S.wn i else u)
  | [], _, _ => by simp [gives]
  | p :: l, S, i => by
    obtain ⟨h1, h2⟩ := gives_wn commit l (give commit S p) i
    have hs : i ≠ p.1 → (give commit S p).wn i = S.wn i := fun e => by
      show (if commit then S.wn else upd S.wn p.1 p.2) i = S.wn i
      cases commit
      · exact upd_other _ _ e
      · rfl
    refine ⟨fun h => ?_, fun hn u hu => ?_⟩
    · simp only [List.map_cons, List.mem_cons, not_or] at h
      exact (h1 h.2).trans (hs h.1)
    · simp only [List.map_cons, List.nodup_cons] at hn
      rcases List.mem_cons.1 hu with e | hu
      · subst e
        refine (h1 hn.1).trans ?_
        show (if commit then S.wn else upd S.wn i u) i = _
        cases commit
        · exact upd_same _ _ _
        · rfl
      · refine (h2 hn.2 u hu).trans ?_
        cases commit
        · rfl
        · exact hs (fun e => hn.1 (by rw [← e]; exact List.mem_map.2 ⟨_, hu, rfl⟩))

theorem gives_inv {c : Nat} {S : St} (I : Inv c S) {x : Nat} (hx : x ∈ S.hs) (hn : S.hs.Nodup) (hw : S.wt x = none) (commit : Bool) (ks' : List Nat) (al' : Option Nat) :
    Inv c (gives commit { S with hs := S.hs.erase x, ks := ks', al := al' } (S.wl x)) := by
  have hsub : ∀ y ∈ S.hs.erase x, y ∈ S.hs ∧ y ≠ x := fun y hy => ⟨List.mem_of_mem_erase hy, fun e => by subst e; exact hn.not_mem_erase hy⟩
  have hin : ∀ y ∈ S.hs, y ≠ x → y ∈ S.hs.erase x := fun y hy e => (List.mem_erase_of_ne e).2 hy
  obtain ⟨wr', hwr⟩ : ∃ f, f = (gives commit { S with hs := S.hs.erase x, ks := ks', al := al' } (S.wl x)).wr := ⟨_, rfl⟩
  obtain ⟨wn', hwn⟩ : ∃ f, f = (gives commit { S with hs := S.hs.erase x, ks := ks', al := al' } (S.wl x)).wn := ⟨_, rfl⟩
  have e1 : ∀ i, wr' i = if i ∈ (S.wl x).map (·.1) then none else S.wr i := fun i => by rw [hwr]; exact gives_wr commit _ _ i
  have e2 : ∀ i, i ∉ (S.wl x).map (·.1) → wn' i = S.wn i := fun i h => by rw [hwn]; exact (gives_wn commit _ _ i).1 h
  rw [gives_same, ← hwr, ← hwn]
  have no : ∀ y ∈ S.hs, y ≠ x → ∀ p ∈ S.wl y, p.1 ∉ (S.wl x).map (·.1) := fun y hy e p hp hm => by
    obtain ⟨q, hq, eq⟩ := List.mem_map.1 hm
    have h1 := (I.w2 y hy p hp).2
    have h2 := (I.w2 x hx q hq).2
    have eq' : q.1 = p.1 := eq
    rw [eq', h1] at h2
    cases h2
    exact e rfl
  refine ⟨fun y hy => I.lt y (hsub y hy).1, fun h hh z hz => ?_, fun h hh => I.q2 h (hsub h hh).1, fun h hh h' hh' => I.q3 h (hsub h hh).1 h' (hsub h' hh').1, fun i hi h e => ?_, fun h hh p hp => ?_, fun h hh => I.w3 h (hsub h hh).1, fun h hh => I.r1 h (hsub h hh).1, fun h hh => I.cw h (hsub h hh).1, I.cg⟩
  · obtain ⟨h1, h2⟩ := I.q1 h (hsub h hh).1 z hz
    exact ⟨hin z h1 (fun e => h2 (e ▸ hw)), h2⟩
  · have e' : wr' i = some h := e
    rw [e1] at e'
    by_cases hm : i ∈ (S.wl x).map (·.1)
    · rw [if_pos hm] at e'; cases e'
    · rw [if_neg hm] at e'
      obtain ⟨h1, h2, u, h3⟩ := I.w1 i hi h e'
      refine ⟨hin h h1 (fun e => ?_), (e2 i hm).trans h2, u, h3⟩
      subst e
      exact hm (List.mem_map.2 ⟨_, h3, rfl⟩)
  · obtain ⟨h1, h2⟩ := I.w2 h (hsub h hh).1 p hp
    refine ⟨h1, ?_⟩
    show wr' p.1 = some h
    rw [e1, if_neg (no h (hsub h hh).1 (hsub h hh).2 p hp)]
    exact h2

/-! ### The requests that waited -/
theorem Inv.unwait {c : Nat} {S : St} (I : Inv c S) {z : Nat} (hz : ∀ h ∈ S.hs, z ∉ S.ql h) : Inv c { S with wt := upd S.wt z none } := by
  refine ⟨I.lt, fun h hh y hy => ?_, I.q2, I.q3, I.w1, I.w2, I.w3, fun h hh r i b e => ?_, I.cw, I.cg⟩
  · obtain ⟨h1, h2⟩ := I.q1 h hh y hy
    refine ⟨h1, ?_⟩
    show upd S.wt z none y ≠ none
    rw [upd_other _ _ (fun e => by subst e; exact hz h hh hy)]
    exact h2
  · have e' : upd S.wt z none h = some (r, i, b) := e
    by_cases eh : h = z
    · subst eh; rw [upd_same] at e'; cases e'
    · rw [upd_other _ _ eh] at e'
      exact I.r1 h hh r i b e'
structure LS (c : Nat) (A B : St) (todo : List Nat) : Prop where
  inv : Inv c B
  th : B.th = A.th
  hs : B.hs = A.hs
  ks : B.ks = A.ks
  tb : B.tb = A.tb
  al : B.al = A.al
  last : B.last = A.last
  im : B.im = A.im
  tm : B.tm = A.tm
  its : B.its = A.its
  q64 : B.Q 64 = A.Q 64
  l64 : B.ql 64 = A.ql 64
  wt : ∀ z ∈ todo, B.wt z = A.wt z
  out : ∀ z ∈ todo, ∀ h ∈ A.hs, z ∉ B.ql h
  mono : ∀ i ∈ A.its, B.wr i = none → A.wr i = none ∧ B.wn i = A.wn i
theorem LS.start {c : Nat} {A : St} (I : Inv c A) {todo : List Nat} (h : ∀ z ∈ todo, ∀ h ∈ A.hs, z ∉ A.ql h) : LS c A A todo := ⟨I, rfl, rfl, rfl, rfl, rfl, rfl, rfl, rfl, rfl, rfl, rfl, fun _ _ => rfl, h, fun i _ e => ⟨e, rfl⟩⟩
theorem LS.step {c : Nat} {A B B' : St} {z i st : Nat} {b : Bool} {todo : List Nat} (h : LS c A B (z :: todo)) (hz : z ∈ A.hs) (hi : i ∈ A.its) (hn : z ∉ todo) (g : SStep { B with wt := upd B.wt z none } B' z i b st) : LS (c + 1) A B' todo ∧ (1 ≤ st ∧ st ≤ 4) ∧ (st = 3 ↔ B'.wt z ≠ none) ∧ ∀ y, y ≠ z → B'.wt y = B.wt y := by
  have I0 := h.inv.unwait (z := z) (fun y hy => h.out z (by simp) y (h.hs ▸ hy))
  have hz' : z ∈ ({ B with wt := upd B.wt z none } : St).hs := by show z ∈ B.hs; rw [h.hs]; exact hz
  have hi' : i ∈ ({ B with wt := upd B.wt z none } : St).its := by show i ∈ B.its; rw [h.its]; exact hi
  have w0 : ({ B with wt := upd B.wt z none } : St).wt z = none := upd_same _ _ _
  have V := g.served I0 hz' hi'
  have hwt : ∀ y, y ≠ z → B'.wt y = B.wt y := fun y hy => (V.wt y hy).trans (upd_other _ _ hy)
  refine ⟨⟨g.inv I0 hz' hi' w0, V.th.trans h.th, V.hs.trans h.hs, V.ks.trans h.ks, V.tb.trans h.tb, V.al.trans h.al, V.last.trans h.last, V.im.trans h.im, V.tm.trans h.tm, V.its.trans h.its, V.q64.trans h.q64, V.l64.trans h.l64, fun y hy => ?_, fun y hy k hk hm => ?_, fun j hj e => ?_⟩, g.ok, g.wait w0, hwt⟩
  · exact (hwt y (fun e => hn (e ▸ hy))).trans (h.wt y (by simp [hy]))
  · have hyz : y ≠ z := fun e => hn (e ▸ hy)
    have hk' : k ∈ B.hs := by rw [h.hs]; exact hk
    exact h.out y (by simp [hy]) k hk (V.ql k hk' y hyz hm)
  · have hj' : j ∈ B.its := by rw [h.its]; exact hj
    obtain ⟨h1, h2⟩ := V.mono j hj' e
    obtain ⟨h3, h4⟩ := h.mono j hj h1
    exact ⟨h3, h2.trans h4⟩

/-! ### forgetIgnored, whole -/
theorem forget_any (SC : SortC) {N : Nat} {D : List Nat} {T : Nat} {w : World} {S : St} (h : Rel N D T w S) (hn : S.gl.length ≤ 100000) (hlen : (S.ql 64).length ≤ 64) (hsub : ∀ x ∈ S.ql 64, x ∈ S.hs) (hs : (S.ql 64).Pairwise (· < ·)) :
    Calls Yba.prog 72 #[Pp T] w (FgPost N D T w S) := by
  by_cases h0 : S.gl.length = 0
  · exact forget_zero h h0
  · rcases h.g.own.2 with ⟨_, h1⟩ | ⟨g, c, cur, h1, h2, h3, _⟩
    · exact absurd h1 h0
    · exact forget_pos SC h g _ c h1 rfl (by omega) hn hlen (fun x hx => ⟨(cell_at (h.x.at_ x (hsub x hx)) 1).trans rfl, tag_ne (h.x.at_ x (hsub x hx)) h3 (by decide), hlt (h.x.at_ x (hsub x hx))⟩) hs

/-! ### The ignored writes of an aborted transaction go -/
def DgPost (N : Nat) (D : List Nat) (T : Nat) (w : World) (S : St) (e : Ending) (w' : World) : Prop :=
  ∃ v, ∃ l : List (Int × Int), e = .returned v ∧ (∃ a n c, v = .slice a n c) ∧ w.grownBy w' S.G.ownBlock ∧ w'.ownsRow N 150 2 v l.length (l.flatMap ignC) ∧ v.ownBlock = S.G.ownBlock ∧ l.length ≤ S.gl.length
theorem delG_any {N : Nat} {D : List Nat} {T : Nat} {w : World} {S : St} (h : Rel N D T w S) (hn : S.gl.length ≤ 100000) (bx B : Nat) (ts : Int) (lt : bx < w.heap.size) (lt2 : B < w.heap.size) (d1 : Pd N D bx) (d2 : Pd N D B) (c1 : w.cell? ⟨bx, 0, none⟩ = some (Pp B)) (c2 : w.cell? ⟨B, 1, none⟩ = some (.int .u64 ts)) :
    Calls Yba.prog 70 #[S.G, .func (.func 71) #[] #[Pp bx]] w (DgPost N D T w S) := by
  rcases h.g.own.2 with ⟨h1, h2⟩ | ⟨g, c, cur, h1, h2, h3, _⟩
  · rw [h1]
    refine (delfunc_nil _ w).mono ?_
    rintro e w' ⟨rfl, rfl⟩
    exact ⟨_, S.gl, rfl, ⟨_, _, _, rfl⟩, World.grownBy.refl _ _, by rw [← h1]; exact h.g.own, by rw [h1], Nat.le_refl _⟩
  · have hu : UR N w g S.gl.length c := ⟨_, ign_u64 _, by rw [← h1]; exact h.g.own⟩
    have hb : S.G.ownBlock = some g := by rw [h1]; rfl
    have hok := h.g.ok g hb
    rw [h1]
    refine (delfunc_any g _ c bx B ts w hu hn lt lt2 (fun e => hok (e ▸ d1)) (fun e => hok (e ▸ d2)) c1 c2).mono ?_
    rintro e w' ⟨m, hm, rfl, hu', hg⟩
    obtain ⟨l, hl, ho⟩ := hu'.row
    exact ⟨_, l, rfl, ⟨_, _, _, rfl⟩, by rw [hb]; exact hg, by rw [hl]; exact ho, by rw [hb]; rfl, by omega⟩

end Go.Proofs.Ybulkaggi.CE

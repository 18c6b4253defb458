import Derived.Test.YbulkaggiCh
namespace Go.Proofs.Ybulkaggi.CE
open Go.RowKit Go.WideMaps Go.Maps
set_option linter.unusedVariables false
set_option maxRecDepth 100000

/-! ### What End gives -/
structure EndRes (N : Nat) (D : List Nat) (T : Nat) (w : World) (S : St) (x : Nat) (commit : Bool) (c : Nat) (R : Nat) (w' : World) (S' : St) : Prop where
  rel : Rel N D T w' S'
  fr : Fr N D w w'
  inv : Inv (c + 64) S'
  hs : S'.hs = S.hs.erase x
  ks : S'.ks = S.hs.erase x
  l64 : S'.ql 64 = S.hs.erase x
  tb : S'.tb = S.tb
  al : S'.al = none
  last : S'.last = S.last
  tm : S'.tm = S.tm
  imn : S.hs.erase x = [] → S'.im = none
  its : S'.its = S.its
  items : ∀ p ∈ S.wl x, S'.wr p.1 ≠ some x ∧ (S'.wr p.1 = none → S'.wn p.1 = if commit then (x : Int) + 1 else p.2)
  tbx : w'.heap[S.tb x]? = w.heap[S.tb x]?
  rnew : w.heap.size ≤ R
  res : ∀ k (hk : k < (S.ql x).length), ∃ st : Nat, w'.cell? ⟨R, k * 2, none⟩ = some (.int .i64 ((S.ql x)[k] : Nat)) ∧ w'.cell? ⟨R, k * 2 + 1, none⟩ = some (.int .u8 (st : Int)) ∧ (1 ≤ st ∧ st ≤ 4) ∧ (st = 3 ↔ S'.wt (S.ql x)[k] ≠ none)
def EndPost (N : Nat) (D : List Nat) (T : Nat) (w : World) (S : St) (x : Nat) (commit : Bool) (c : Nat) (e : Ending) (w' : World) : Prop :=
  ∃ R S', e = .returned (.slice (some ⟨R, 0, none⟩) (S.ql x).length (S.ql x).length) ∧ EndRes N D T w S x commit c R w' S'

/-- The state when x has left the table's map and the running ones. -/
def left (S : St) (x : Nat) : St := { S with hs := S.hs.erase x, ks := S.hs.erase x, al := none }

theorem eq_alone {al : Option Nat} {x : Nat} {tb : Nat → Nat} (h : al = none ∨ al = some x) : ∃ r : Bool, ∀ W, (binOp .eql 53 (Pp (tb x)) (po (al.map tb))).run Yba.prog W = .ok (.bool r) W ∧ ((r = true → al = some x) ∧ (r = false → al = none)) := by
  rcases h with rfl | rfl
  · exact ⟨false, fun W => ⟨by kernel_rfl, by simp⟩⟩
  · exact ⟨true, fun W => ⟨eq_ptr_same W _, by simp⟩⟩

theorem Rel.eta_al {N : Nat} {D : List Nat} {T : Nat} {w : World} {S : St} (h : Rel N D T w S) (e : S.al = none) : Rel N D T w { S with al := none } := by
  have e2 : ({ S with al := none } : St) = S := by rw [← e]
  rw [e2]
  exact h

/-- One item is given back. -/
theorem give_step {N : Nat} {D : List Nat} {T : Nat} {w : World} {A : St} (h : Rel N D T w A) {i : Nat} (hi : i ∈ A.its) (u : Int) (o : Obj) :
    (Rel N D T ((w.setCell ⟨i, 2, none⟩ (.pointer none)).alloc o) (give true A (i, u)) ∧ Fr N D w ((w.setCell ⟨i, 2, none⟩ (.pointer none)).alloc o)) ∧
    (Rel N D T (((w.setCell ⟨i, 2, none⟩ (.pointer none)).setCell ⟨i, 1, none⟩ (.int .u64 u)).alloc o) (give false A (i, u)) ∧ Fr N D w (((w.setCell ⟨i, 2, none⟩ (.pointer none)).setCell ⟨i, 1, none⟩ (.int .u64 u)).alloc o)) := by
  obtain ⟨h1, f1⟩ := h.setWr hi none
  obtain ⟨h2, f2⟩ := h1.setWn (i := i) hi u
  exact ⟨⟨h1.alloc o, f1.trans (Fr.alloc h1.low o)⟩, ⟨h2.alloc o, (f1.trans f2).trans (Fr.alloc h2.low o)⟩⟩
theorem info122 : (Yba.prog.info? 122).map (fun i => (i.zero, i.size, i.bytes)) = some (some (.agg #[.int .i64 0, .int .u8 0]), 2, 16) := by kernel_rfl
theorem undo_at : ∀ (l : List (Nat × Int)) (k : Nat) (h : k < l.length), (l.flatMap undoC)[k * 2]? = some (Pp (l[k]).1) ∧ (l.flatMap undoC)[k * 2 + 1]? = some (.int .u64 (l[k]).2)
  | [], k, h => by simp at h
  | p :: l, 0, h => by simp [undoC]
  | p :: l, k + 1, h => by
    have ih := undo_at l k (by simpa using h)
    have e1 : (k + 1) * 2 = k * 2 + 1 + 1 := by omega
    have e2 : (k + 1) * 2 + 1 = k * 2 + 1 + 1 + 1 := by omega
    rw [e2, e1]
    simpa [undoC] using ih
/-- What the leaving transaction wrote, and who waited for it. -/
structure Lv (N : Nat) (D2 : List Nat) (T : Nat) (X : World) (S : St) (x b7 : Nat) (wa qa : Option Addr) (wk qk : Nat) : Prop where
  rel : Rel N D2 T X (left S x)
  dB : S.tb x ∈ D2
  d7 : b7 ∈ D2
  cB : X.heap[S.tb x]? = some (.cells #[.int .i64 x, .int .u64 ((x : Int) + 1), S.W x, .map (S.M x), po ((S.wt x).map (·.1)), S.Q x] 66 (0, 0))
  hW : S.W x = .slice wa (S.wl x).length wk
  hQ : S.Q x = .slice qa (S.ql x).length qk
  cW : ∀ k (h : k < (S.wl x).length), ∃ g, wa = some ⟨g, 0, none⟩ ∧ g ∈ D2 ∧ X.cell? ⟨g, k * 2, none⟩ = some (Pp ((S.wl x)[k]).1) ∧ X.cell? ⟨g, k * 2 + 1, none⟩ = some (.int .u64 ((S.wl x)[k]).2)
  cQ : ∀ k (h : k < (S.ql x).length), ∃ g, qa = some ⟨g, 0, none⟩ ∧ g ∈ D2 ∧ X.cell? ⟨g, k, none⟩ = some (Pp (S.tb (S.ql x)[k]))
  c7 : X.cell? ⟨b7, 0, none⟩ = some (Pp (S.tb x))
theorem leaves {N b7 x : Nat} {D : List Nat} {T : Nat} {X : World} {S : St} (h : Rel N (b7 :: D) T X { S with ks := S.ks.erase x, al := none }) (hx : x ∈ S.hs) (nod : S.hs.Nodup) (h64 : x ≠ 64) (hks : S.ks = S.hs) (c7 : X.cell? ⟨b7, 0, none⟩ = some (Pp (S.tb x))) :
    ∃ D2 wa qa wk qk, (∀ k ∈ D, k ∈ D2) ∧ Lv N D2 T X S x b7 wa qa wk qk := by
  obtain ⟨D2, e2, h3, dB, dW, dQ⟩ := h.retire (x := x) hx nod h64
  have h3' : Rel N D2 T X (left S x) := by
    unfold left
    rw [← hks]
    have e : (S.ks.erase x) = ({ S with ks := S.ks.erase x, al := none } : St).ks := rfl
    rw [hks] at h3 ⊢
    exact h3
  have oW := h.v.own x hx
  have oQ := h.q.own x (.inl hx)
  obtain ⟨wa, wk, hW⟩ := sl_shape oW
  obtain ⟨qa, qk, hQ⟩ := sl_shape oQ
  refine ⟨D2, wa, qa, wk, qk, fun k hk => e2 k (List.mem_cons_of_mem _ hk), h3', dB, e2 _ (by simp), h.x.at_ x hx, hW, hQ, fun k hk => ?_, fun k hk => ?_, c7⟩
  · have oW' : X.ownsRow N 124 2 (S.W x) (S.wl x).length ((S.wl x).flatMap undoC) := oW
    have hW' : S.W x = .slice wa (S.wl x).length wk := hW
    rcases oW'.2 with ⟨_, h0⟩ | ⟨g, cap, cur, e, _⟩
    · omega
    · have ea : wa = some ⟨g, 0, none⟩ := by rw [hW'] at e; cases e; rfl
      subst ea
      rw [hW'] at oW'
      obtain ⟨u1, u2⟩ := undo_at (S.wl x) k hk
      exact ⟨g, rfl, dW g (by rw [hW]; rfl), (oW'.cellAt _ (by omega)).trans u1, (oW'.cellAt _ (by omega)).trans u2⟩
  · have oQ' : X.ownsRow N 53 1 (S.Q x) (S.ql x).length ((S.ql x).map fun y => Pp (S.tb y)) := oQ
    have hQ' : S.Q x = .slice qa (S.ql x).length qk := hQ
    rcases oQ'.2 with ⟨_, h0⟩ | ⟨g, cap, cur, e, _⟩
    · omega
    · have ea : qa = some ⟨g, 0, none⟩ := by rw [hQ'] at e; cases e; rfl
      subst ea
      rw [hQ'] at oQ'
      refine ⟨g, rfl, dQ g (by rw [hQ]; rfl), (oQ'.cellAt _ (by omega)).trans ?_⟩
      simp [hk]

/-- The result row: n pairs, each a handle and a status. -/
structure RR2 (R n : Nat) (L : List Nat) (k : Nat) (w : World) (S : St) : Prop where
  own : ∃ xs, w.ownsRow 0 122 2 (.slice (some ⟨R, 0, none⟩) n n) n xs
  res : ∀ j (hj : j < L.length), j < k → ∃ st : Nat, w.cell? ⟨R, j * 2, none⟩ = some (.int .i64 (L[j] : Nat)) ∧ w.cell? ⟨R, j * 2 + 1, none⟩ = some (.int .u8 (st : Int)) ∧ (1 ≤ st ∧ st ≤ 4) ∧ (st = 3 ↔ S.wt L[j] ≠ none)

theorem RR2.step {R n k z st : Nat} {L : List Nat} {w w' : World} {S S' : St} (h : RR2 R n L k w S) (hb : w'.heap[R]? = w.heap[R]?) (hk : k < L.length) (hn : L.length = n) (nod : L.Nodup) (hz : L[k] = z) (hst : 1 ≤ st ∧ st ≤ 4) (h3 : st = 3 ↔ S'.wt z ≠ none) (hwt : ∀ y, y ≠ z → S'.wt y = S.wt y) :
    RR2 R n L (k + 1) ((w'.setCell ⟨R, k * 2, none⟩ (.int .i64 (z : Int))).setCell ⟨R, k * 2 + 1, none⟩ (.int .u8 (st : Int))) S' := by
  obtain ⟨xs, ho⟩ := h.own
  have ho' : w'.ownsRow 0 122 2 (.slice (some ⟨R, 0, none⟩) n n) n xs := own_keep ho (fun b e => by cases e; exact hb)
  have o2 := ((ho'.stored (k * 2) (.int .i64 (z : Int))).1.stored (k * 2 + 1) (.int .u8 (st : Int))).1
  have hl := ho.1
  refine ⟨⟨_, o2⟩, fun j hj hjk => ?_⟩
  by_cases e : j = k
  · subst e
    refine ⟨st, ?_, ?_, hst, by rw [hz]; exact h3⟩
    · rw [o2.cellAt _ (by omega), hz, List.getElem?_set_ne (by omega), List.getElem?_set_self (by omega)]
    · rw [o2.cellAt _ (by omega), List.getElem?_set_self (by simp; omega)]
  · obtain ⟨s, r1, r2, r3, r4⟩ := h.res j hj (by omega)
    have hne : L[j] ≠ z := fun e' => by
      have pw := List.pairwise_iff_getElem.1 nod
      rcases Nat.lt_or_gt_of_ne e with h | h
      · exact pw j k hj hk h (e'.trans hz.symm)
      · exact pw k j hk hj h (hz.trans e'.symm)
    refine ⟨s, ?_, ?_, r3, by rw [hwt _ hne]; exact r4⟩
    · rw [o2.cellAt _ (by omega), List.getElem?_set_ne (by omega), List.getElem?_set_ne (by omega), ← ho.cellAt _ (by omega)]
      exact r1
    · rw [o2.cellAt _ (by omega), List.getElem?_set_ne (by omega), List.getElem?_set_ne (by omega), ← ho.cellAt _ (by omega)]
      exact r2
theorem Kt.grownN {t : TypeId} {w w' : World} (hg : w.grownBy w' none) : Kt t w w' := fun x xs hx => hg.block x (hlt hx) (by simp)
theorem Km.grownN {w w' : World} (hg : w.grownBy w' none) : Km w w' := fun x es c hx => hg.block x (hlt hx) (by simp)
/-- The state within the second loop. -/
structure L2 (N : Nat) (D2 : List Nat) (T R n c k : Nat) (L : List Nat) (X : World) (A : St) (wr : World) (B : St) : Prop where
  rel : Rel N (R :: D2) T wr B
  fr : Fr N D2 X wr
  ls : LS (c + k) A B (L.drop k)
  rr : RR2 R n L k wr B
  nR : ¬ Pd N D2 R
theorem L2.start {N : Nat} {D2 : List Nat} {T n c : Nat} {L : List Nat} {X wr wm : World} {A : St} {xs : List Value} (h : Rel N D2 T wr A) (fr : Fr N D2 X wr) (I : Inv c A) (ho : wm.ownsRow 0 122 2 (.slice (some ⟨wr.heap.size, 0, none⟩) n n) n xs) (hg : wr.grownBy wm none) (hq : ∀ z ∈ L, ∀ h ∈ A.hs, z ∉ A.ql h) :
    L2 N D2 T wr.heap.size n c 0 L X A wm A := by
  have hn : ¬ Pd N D2 wr.heap.size := not_new h.low (Nat.le_refl _)
  have hlt2 : wr.heap.size < wm.heap.size := (ho.lt _ rfl).2
  exact ⟨h.fresh hg.size (fun t => Kt.grownN hg) (Km.grownN hg) (Nat.le_refl _) hlt2, fr.trans (Fr.grown h.low hg (fun k e => by cases e)), LS.start I (by simpa using hq), ⟨⟨xs, ho⟩, fun j hj h => absurd h (by omega)⟩, hn⟩
/-- One request that waited, ahead of its service. -/
structure L2z (N : Nat) (D2 : List Nat) (T R n c k z r i : Nat) (b : Bool) (A B : St) (wr : World) : Prop where
  hz : z ∈ A.hs
  hi : i ∈ A.its
  c4 : wr.cell? ⟨A.tb z, 4, none⟩ = some (Pp r)
  f4 : wr.frozen? ⟨A.tb z, 4, none⟩ = false
  lz : A.tb z < wr.heap.size
  r0 : wr.cell? ⟨r, 0, none⟩ = some (Pp i)
  r1 : wr.cell? ⟨r, 1, none⟩ = some (.bool b)
theorem L2.next {N : Nat} {D2 : List Nat} {T R n c k : Nat} {L : List Nat} {X wr : World} {A B : St} (h : L2 N D2 T R n c k L X A wr B) (hk : k < L.length) (hL : ∀ z ∈ L, z ∈ A.hs ∧ A.wt z ≠ none) (IA : Inv c A) :
    ∃ r i b, L2z N D2 T R n c k L[k] r i b A B wr := by
  obtain ⟨h1, h2⟩ := hL _ (List.getElem_mem hk)
  have hw : B.wt L[k] = A.wt L[k] := h.ls.wt _ (by have e := List.drop_eq_getElem_cons hk; rw [e]; exact List.mem_cons_self)
  cases e : A.wt L[k] with
  | none => exact absurd e h2
  | some p =>
    obtain ⟨r, i, b⟩ := p
    have hz' : L[k] ∈ B.hs := by rw [h.ls.hs]; exact h1
    have ax := h.rel.x.at_ _ hz'
    have ar := h.rel.r.at_ _ hz' r i b (hw.trans e)
    rw [h.ls.tb] at ax
    refine ⟨r, i, b, h1, IA.r1 _ h1 r i b e, ?_, free_at ax 4, hlt ax, (cell_at ar 0).trans rfl, (cell_at ar 1).trans rfl⟩
    rw [cell_at ax, hw, e]
    rfl
theorem L2.at18 {N : Nat} {D2 : List Nat} {T R n c k z : Nat} {L : List Nat} {X wr : World} {A B : St} (h : L2 N D2 T R n c k L X A wr B) (hk : k < L.length) (hn : L.length = n) (hz : L[k] = z) (hzA : z ∈ A.hs) (b : Bool) (i : Nat) :
    Rel N (wr.heap.size :: R :: D2) T ((wr.setCell ⟨A.tb z, 4, none⟩ (.pointer none)).alloc (.cells #[Pp i, .bool b] 118)) { B with wt := upd B.wt z none } ∧ Inv (c + k) { B with wt := upd B.wt z none } ∧
    Fr N (R :: D2) wr ((wr.setCell ⟨A.tb z, 4, none⟩ (.pointer none)).alloc (.cells #[Pp i, .bool b] 118)) ∧ ∃ u0 u1,
      ((wr.setCell ⟨A.tb z, 4, none⟩ (.pointer none)).alloc (.cells #[Pp i, .bool b] 118)).cell? ⟨wr.heap.size, 0, none⟩ = some (Pp i) ∧ ((wr.setCell ⟨A.tb z, 4, none⟩ (.pointer none)).alloc (.cells #[Pp i, .bool b] 118)).cell? ⟨wr.heap.size, 1, none⟩ = some (.bool b) ∧
      ((wr.setCell ⟨A.tb z, 4, none⟩ (.pointer none)).alloc (.cells #[Pp i, .bool b] 118)).cell? ⟨R, k * 2, none⟩ = some u0 ∧ ((wr.setCell ⟨A.tb z, 4, none⟩ (.pointer none)).alloc (.cells #[Pp i, .bool b] 118)).cell? ⟨R, k * 2 + 1, none⟩ = some u1 ∧
      (∀ j, ((wr.setCell ⟨A.tb z, 4, none⟩ (.pointer none)).alloc (.cells #[Pp i, .bool b] 118)).frozen? ⟨R, j, none⟩ = false) ∧ R ≠ wr.heap.size := by
  have hz' : z ∈ B.hs := by rw [h.ls.hs]; exact hzA
  obtain ⟨h1, f1⟩ := h.rel.setWt0 hz'
  have etz : B.tb z = A.tb z := by rw [h.ls.tb]
  rw [etz] at h1 f1
  have h2 := h1.newD (.cells #[Pp i, .bool b] 118)
  rw [size_set] at h2
  have f2 := f1.trans (Fr.alloc h1.low (.cells #[Pp i, .bool b] 118))
  have hmem : z ∈ L.drop k := by have e := List.drop_eq_getElem_cons hk; rw [e, hz]; exact List.mem_cons_self
  have hnew : ((wr.setCell ⟨A.tb z, 4, none⟩ (.pointer none)).alloc (.cells #[Pp i, .bool b] 118)).heap[wr.heap.size]? = some (.cells #[Pp i, .bool b] 118 (0, 0)) := by
    have := heap_alloc_new (wr.setCell ⟨A.tb z, 4, none⟩ (.pointer none)) (.cells #[Pp i, .bool b] 118)
    rwa [size_set] at this
  obtain ⟨xs, ho⟩ := h.rr.own
  have ho2 := own_keep ho (w' := (wr.setCell ⟨A.tb z, 4, none⟩ (.pointer none)).alloc (.cells #[Pp i, .bool b] 118)) (fun k e => by cases e; exact f2.block R (.inr (by simp)))
  have hl := ho2.1
  refine ⟨h2, h.ls.inv.unwait (fun y hy => h.ls.out z hmem y (h.ls.hs ▸ hy)), f2, _, _, (cell_at hnew 0).trans rfl, (cell_at hnew 1).trans rfl, (ho2.cellAt _ (by omega)).trans (List.getElem?_eq_getElem (by omega)), (ho2.cellAt _ (by omega)).trans (List.getElem?_eq_getElem (by omega)), fun j => ho2.frozenAt _, ?_⟩
  have := (ho.lt R rfl).2
  omega
theorem L2.done {N : Nat} {D2 : List Nat} {T R n c k z i st bx : Nat} {b : Bool} {L : List Nat} {X wr w0 w' : World} {A B B' : St} (h : L2 N D2 T R n c k L X A wr B) (hk : k < L.length) (hn : L.length = n) (nod : L.Nodup) (hz : L[k] = z) (hzA : z ∈ A.hs) (hi : i ∈ A.its)
    (f0 : Fr N (R :: D2) wr w0) (g1 : Rel N (bx :: R :: D2) T w' B') (g2 : Fr N (bx :: R :: D2) w0 w') (g3 : SStep { B with wt := upd B.wt z none } B' z i b st) :
    L2 N D2 T R n c (k + 1) L X A ((w'.setCell ⟨R, k * 2, none⟩ (.int .i64 (z : Int))).setCell ⟨R, k * 2 + 1, none⟩ (.int .u8 (st : Int))) B' := by
  have hd : L.drop k = z :: L.drop (k + 1) := by rw [List.drop_eq_getElem_cons hk, hz]
  have hnt : z ∉ L.drop (k + 1) := by
    have := nod.sublist (List.drop_sublist k L)
    rw [hd] at this
    exact (List.nodup_cons.1 this).1
  have ls := h.ls
  rw [hd] at ls
  obtain ⟨s1, s2, s3, s4⟩ := ls.step hzA hi hnt g3
  have hb : w'.heap[R]? = wr.heap[R]? := (g2.block R (.inr (by simp))).trans (f0.block R (.inr (by simp)))
  refine ⟨((g1.less (fun k hk => List.mem_cons_of_mem _ hk)).store (by simp) _ _).store (by simp) _ _, ?_, s1, h.rr.step hb hk hn nod hz s2 s3 s4, h.nR⟩
  exact (((h.fr.trans (f0.mono (fun k hk => List.mem_cons_of_mem _ hk))).trans (g2.mono (fun k hk => by simp [hk]))).trans (Fr.setCell h.nR _)).trans (Fr.setCell h.nR _)

/-! ### The tail of End -/
theorem pos_at {L : List Nat} {x i : Nat} (hs : L.Pairwise (· < ·)) (hx : x ∈ L) (hp : Pos L ((x : Int) + 1) i) : ∃ h : i < L.length, L[i] = x := by
  obtain ⟨j, hj, ej⟩ := List.mem_iff_getElem.1 hx
  have hij : i ≤ j := by
    rcases Nat.lt_or_ge j i with h | h
    · have := hp.lo j hj h
      rw [ej] at this
      omega
    · exact h
  have hil : i < L.length := by omega
  refine ⟨hil, ?_⟩
  have h1 := hp.hi i hil (Nat.le_refl _)
  by_cases e : i = j
  · subst e; exact ej
  · have h2 := List.pairwise_iff_getElem.1 hs i j hil hj (by omega)
    rw [ej] at h2
    omega
theorem erase_at : ∀ (L : List Nat) (i : Nat) (h : i < L.length), L.Nodup → L.eraseIdx i = L.erase L[i]
  | [], i, h, _ => by simp at h
  | a :: L, 0, h, _ => by simp
  | a :: L, i + 1, h, hn => by
    have hn' := List.nodup_cons.1 hn
    have hi : i < L.length := by simpa using h
    have hne : ¬ (a == L[i]) = true := by
      simp only [beq_iff_eq]
      intro e
      exact hn'.1 (e ▸ List.getElem_mem hi)
    rw [List.eraseIdx_cons_succ, List.getElem_cons_succ, List.erase_cons_tail hne, erase_at L i hi hn'.2]
theorem map_eraseIdx {α β : Type} (f : α → β) : ∀ (L : List α) (i : Nat), (L.map f).eraseIdx i = (L.eraseIdx i).map f
  | [], _ => rfl
  | _ :: _, 0 => rfl
  | _ :: L, i + 1 => by simp [map_eraseIdx f L i]
theorem del64 {N : Nat} {D : List Nat} {T : Nat} {w : World} {B : St} (h : Rel N D T w B) (h64 : 64 ∉ B.hs) {L : List Nat} {x i : Nat} (hL : B.ql 64 = L) (hs : L.Pairwise (· < ·)) (hx : x ∈ L) (hlen : L.length ≤ 64) (hp : Pos L ((x : Int) + 1) i) :
    ∃ g n c, w.cell? ⟨T, 4, none⟩ = some (.slice (some ⟨g, 0, none⟩) n c) ∧ Calls Yba.prog 68 #[.slice (some ⟨g, 0, none⟩) n c, .int .i64 (i : Int), .int .i64 ((i : Int) + 1)] w fun e w' =>
      e = .returned (.slice (some ⟨g, 0, none⟩) (n - 1) c) ∧ (∃ v, w'.cell? ⟨T, 4, none⟩ = some v) ∧ w'.frozen? ⟨T, 4, none⟩ = false ∧
      Rel N D T (w'.setCell ⟨T, 4, none⟩ (.slice (some ⟨g, 0, none⟩) (n - 1) c)) { B with Q := upd B.Q 64 (.slice (some ⟨g, 0, none⟩) (n - 1) c), ql := upd B.ql 64 (L.erase x) } ∧ Fr N D w (w'.setCell ⟨T, 4, none⟩ (.slice (some ⟨g, 0, none⟩) (n - 1) c)) := by
  obtain ⟨hil, hxi⟩ := pos_at hs hx hp
  have nod : L.Nodup := nod_of hs
  have ho := h.q.own 64 (.inr rfl)
  rw [hL] at ho
  rcases ho.2 with ⟨_, h0⟩ | ⟨g, c, cur, e, hb, hg, hr⟩
  · omega
  · have hT : T ≠ g := tag_ne h.t.at_ hg (by decide)
    have hob : (B.Q 64).ownBlock = some g := by rw [e]; rfl
    refine ⟨g, L.length, c, by rw [cell_at h.t.at_, ← e]; rfl, ?_⟩
    rw [e] at ho
    refine (delptr_any g L.length c i N ((i : Int) + 1) (L.map fun z => Pp (B.tb z)) w rfl (by simp) hil (by omega) (fun u hu => by obtain ⟨z, _, rfl⟩ := List.mem_map.1 hu; rfl) ho).mono ?_
    rintro e2 w' ⟨rfl, how, hat⟩
    have heT := hat.block T hT
    have her : L.eraseIdx i = L.erase x := by rw [← hxi]; exact erase_at L i hil nod
    have hlen2 : (L.erase x).length = L.length - 1 := by rw [← her, List.length_eraseIdx_of_lt hil]
    obtain ⟨k1, k2⟩ := h.setB (w1 := w') h64 (by rw [hob]; exact hat.grown) (v' := .slice (some ⟨g, 0, none⟩) (L.length - 1) c) (l' := L.erase x) (by rw [hlen2, ← her, ← map_eraseIdx]; exact how) (.inl (by rw [hob]; rfl))
    exact ⟨rfl, ⟨_, (World.cell?_of_block heT).trans (cell_at h.t.at_ 4)⟩, (World.frozen?_of_block heT).trans (free_at h.t.at_ 4), k1, k2⟩
theorem delG_set {N : Nat} {D : List Nat} {T : Nat} {w : World} {S : St} (h : Rel N D T w S) (hn : S.gl.length ≤ 100000) (bx B : Nat) (ts : Int) (lt : bx < w.heap.size) (lt2 : B < w.heap.size) (d1 : Pd N D bx) (d2 : Pd N D B) (c1 : w.cell? ⟨bx, 0, none⟩ = some (Pp B)) (c2 : w.cell? ⟨B, 1, none⟩ = some (.int .u64 ts)) :
    Calls Yba.prog 70 #[S.G, .func (.func 71) #[] #[Pp bx]] w fun e w' => ∃ a n c, ∃ l : List (Int × Int), e = .returned (.slice a n c) ∧ (∃ v, w'.cell? ⟨T, 5, none⟩ = some v) ∧ w'.frozen? ⟨T, 5, none⟩ = false ∧
      Rel N D T (w'.setCell ⟨T, 5, none⟩ (.slice a n c)) { S with G := .slice a n c, gl := l } ∧ Fr N D w (w'.setCell ⟨T, 5, none⟩ (.slice a n c)) ∧ l.length ≤ S.gl.length := by
  refine (delG_any h hn bx B ts lt lt2 d1 d2 c1 c2).mono ?_
  rintro e w' ⟨v, l, rfl, ⟨a, n, c, rfl⟩, hg, ho, hb, hl⟩
  obtain ⟨k1, k2⟩ := h.setG hg ho (.inl hb)
  have heT : w'.heap[T]? = w.heap[T]? := hg.block T (hlt h.t.at_) (fun e => by
    obtain ⟨cs, hc⟩ := own_tag h.g.own e.symm
    exact tag_ne h.t.at_ hc (by decide) rfl)
  exact ⟨a, n, c, l, rfl, ⟨_, (World.cell?_of_block heT).trans (cell_at h.t.at_ 5)⟩, (World.frozen?_of_block heT).trans (free_at h.t.at_ 5), k1, k2, hl⟩

/-- What End leaves, out of what it went through. -/
theorem end_res {N : Nat} {D D2 : List Nat} {T x c n R : Nat} {w wc wr w' : World} {S A B : St} {commit : Bool} {v vg : Value} {o : Option Nat} {lg : List (Int × Int)} (I : Inv c S) (hx : x ∈ S.hs) (nod : S.hs.Nodup) (hn : (S.ql x).length = n) (hn2 : n ≤ 64) (eD : ∀ k ∈ D, k ∈ D2) (dB : S.tb x ∈ D2)
    (eA : gives commit (left S x) (S.wl x) = A) (FX : Fr N D w wc) (EX : wc.heap[S.tb x]? = w.heap[S.tb x]?) (hL : L2 N D2 T R n c n (S.ql x) wc A wr B) (hR : w.heap.size ≤ R)
    (hr : Rel N (R :: D2) T w' { B with Q := upd B.Q 64 v, ql := upd B.ql 64 (S.hs.erase x), im := o, G := vg, gl := lg }) (hf : Fr N (R :: D2) wr w') (hlg : lg.length ≤ B.gl.length) (ho : B.ks = [] → o = none) :
    EndRes N D T w S x commit c R w' { B with Q := upd B.Q 64 v, ql := upd B.ql 64 (S.hs.erase x), im := o, G := vg, gl := lg } := by
  have hA : A = { left S x with wr := (gives commit (left S x) (S.wl x)).wr, wn := (gives commit (left S x) (S.wl x)).wn } := by rw [← eA]; exact gives_same _ _ _
  have ehs : B.hs = S.hs.erase x := by rw [hL.ls.hs, hA]; rfl
  have eks : B.ks = S.hs.erase x := by rw [hL.ls.ks, hA]; rfl
  have n64 : 64 ∉ B.hs := hL.ls.inv.no64
  have IB := hL.ls.inv
  have hsub : ∀ k ∈ D, k ∈ R :: D2 := fun k hk => List.mem_cons_of_mem _ (eD k hk)
  have q64 : ∀ h ∈ B.hs, upd B.ql 64 (S.hs.erase x) h = B.ql h := fun h hh => upd_other _ _ (fun e => n64 (e ▸ hh))
  refine ⟨hr.less hsub, (FX.trans (hL.fr.mono eD)).trans (hf.mono hsub), ?_, ehs, eks, (by show upd B.ql 64 (S.hs.erase x) 64 = _; exact upd_same _ _ _), ?_, ?_, ?_, ?_, fun e => ho (eks.trans e), ?_, fun p hp => ?_, ?_, hR, fun k hk => ?_⟩
  · refine ⟨IB.lt, fun h hh z hz => ?_, fun h hh => ?_, fun h hh h' hh' z hz hz' => ?_, IB.w1, IB.w2, IB.w3, IB.r1, fun h hh => Nat.le_trans (IB.cw h hh) (by omega), ?_⟩
    · have hz' : z ∈ upd B.ql 64 (S.hs.erase x) h := hz
      rw [q64 h hh] at hz'
      exact IB.q1 h hh z hz'
    · show (upd B.ql 64 (S.hs.erase x) h).Nodup
      rw [q64 h hh]
      exact IB.q2 h hh
    · have h1 : z ∈ upd B.ql 64 (S.hs.erase x) h := hz
      have h2 : z ∈ upd B.ql 64 (S.hs.erase x) h' := hz'
      rw [q64 h hh] at h1
      rw [q64 h' hh'] at h2
      exact IB.q3 h hh h' hh' z h1 h2
    · have := IB.cg
      show lg.length ≤ c + 64
      omega
  · show B.tb = S.tb
    rw [hL.ls.tb, hA]; rfl
  · show B.al = none
    rw [hL.ls.al, hA]; rfl
  · show B.last = S.last
    rw [hL.ls.last, hA]; rfl
  · show B.tm = S.tm
    rw [hL.ls.tm, hA]; rfl
  · show B.its = S.its
    rw [hL.ls.its, hA]; rfl
  · obtain ⟨h1, h2⟩ := I.w2 x hx p hp
    have hiA : p.1 ∈ A.its := by rw [hA]; exact h1
    have hiB : p.1 ∈ B.its := by rw [hL.ls.its]; exact hiA
    refine ⟨fun e => ?_, fun e => ?_⟩
    · have := (IB.w1 p.1 hiB x e).1
      rw [ehs] at this
      exact nod.not_mem_erase this
    · obtain ⟨k1, k2⟩ := hL.ls.mono p.1 hiA e
      show B.wn p.1 = _
      rw [k2, ← eA, (gives_wn commit (S.wl x) (left S x) p.1).2 (I.w3 x hx) p.2 hp]
      cases commit
      · rfl
      · exact (I.w1 p.1 h1 x h2).2.1
  · have e1 : w'.heap[S.tb x]? = wr.heap[S.tb x]? := hf.block _ (.inr (List.mem_cons_of_mem _ dB))
    have e2 : wr.heap[S.tb x]? = wc.heap[S.tb x]? := hL.fr.block _ (.inr dB)
    exact (e1.trans e2).trans EX
  · obtain ⟨st, r1, r2, r3, r4⟩ := hL.rr.res k hk (by omega)
    have eR : w'.heap[R]? = wr.heap[R]? := hf.block R (.inr (by simp))
    exact ⟨st, (World.cell?_of_block eR).trans r1, (World.cell?_of_block eR).trans r2, r3, r4⟩

end Go.Proofs.Ybulkaggi.CE

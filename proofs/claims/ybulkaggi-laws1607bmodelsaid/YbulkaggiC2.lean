import Derived.Test.YbulkaggiC1
namespace Go.Proofs.Ybulkaggi.CE
open Go.RowKit Go.WideMaps Go.Maps
set_option linter.unusedVariables false
set_option maxRecDepth 100000

section
variable {N : Nat} {D : List Nat} {T : Nat} {w : World} {S : St}

theorem size_set (w : World) (p : Addr) (v : Value) : (w.setCell p v).heap.size = w.heap.size := by simp [World.setCell]

/-! ### Items -/
theorem Rel.setI (h : Rel N D T w S) {i : Nat} (hi : i ∈ S.its) (j : Nat) (v : Value) (rd' wn' : Nat → Int) (wr' : Nat → Option Nat)
    (he : (#[.int .u64 (S.rd i), .int .u64 (S.wn i), po ((S.wr i).map S.tb)] : Array Value).setIfInBounds j v = #[.int .u64 (rd' i), .int .u64 (wn' i), po ((wr' i).map S.tb)])
    (ho : ∀ x, x ≠ i → rd' x = S.rd x ∧ wn' x = S.wn x ∧ wr' x = S.wr x) :
    Rel N D T (w.setCell ⟨i, j, none⟩ v) { S with rd := rd', wn := wn', wr := wr' } ∧ Fr N D w (w.setCell ⟨i, j, none⟩ v) := by
  have hb := h.i.at_ i hi
  refine ⟨⟨fun k hk => by rw [size_set]; exact h.low k hk, by rw [size_set]; exact h.lowN, h.t.keep (Kt.setCell hb (by decide)), h.x.keep (Kt.setCell hb (by decide)), h.r.keep (Kt.setCell hb (by decide)), ⟨fun x hx => ?_, h.i.ok⟩, h.q.keep (Kt.setCell hb (by decide)), h.v.keep (Kt.setCell hb (by decide)), h.g.keep (Kt.setCell hb (by decide)), h.m.keep (Km.setCell hb)⟩, Fr.setCell (h.i.ok i hi) v⟩
  show _ = some (Obj.cells #[.int .u64 (rd' x), .int .u64 (wn' x), po ((wr' x).map S.tb)] 126 (0, 0))
  by_cases e : x = i
  · subst e
    rw [heap_setCell_same w x j _ 126 v hb, he]
  · obtain ⟨e1, e2, e3⟩ := ho x e
    rw [e1, e2, e3]
    exact (Below.heap_setCell w ⟨i, j, none⟩ v x e).trans (h.i.at_ x hx)
theorem Rel.setRd (h : Rel N D T w S) {i : Nat} (hi : i ∈ S.its) (n : Int) : Rel N D T (w.setCell ⟨i, 0, none⟩ (.int .u64 n)) { S with rd := upd S.rd i n } ∧ Fr N D w (w.setCell ⟨i, 0, none⟩ (.int .u64 n)) :=
  h.setI hi 0 _ (upd S.rd i n) S.wn S.wr (by simp [upd_same]) (fun x hx => ⟨upd_other _ _ hx, rfl, rfl⟩)
theorem Rel.setWn (h : Rel N D T w S) {i : Nat} (hi : i ∈ S.its) (n : Int) : Rel N D T (w.setCell ⟨i, 1, none⟩ (.int .u64 n)) { S with wn := upd S.wn i n } ∧ Fr N D w (w.setCell ⟨i, 1, none⟩ (.int .u64 n)) :=
  h.setI hi 1 _ S.rd (upd S.wn i n) S.wr (by simp [upd_same]) (fun x hx => ⟨rfl, upd_other _ _ hx, rfl⟩)
theorem Rel.setWr (h : Rel N D T w S) {i : Nat} (hi : i ∈ S.its) (o : Option Nat) : Rel N D T (w.setCell ⟨i, 2, none⟩ (po (o.map S.tb))) { S with wr := upd S.wr i o } ∧ Fr N D w (w.setCell ⟨i, 2, none⟩ (po (o.map S.tb))) :=
  h.setI hi 2 _ S.rd S.wn (upd S.wr i o) (by simp [upd_same]) (fun x hx => ⟨rfl, rfl, upd_other _ _ hx⟩)

/-! ### Transactions -/
theorem Rel.setX (h : Rel N D T w S) {x : Nat} (hx : x ∈ S.hs) (j : Nat) (v : Value) (M' : Nat → Option Nat) (wt' : Nat → Option (Nat × Nat × Bool))
    (he : (#[.int .i64 x, .int .u64 ((x : Int) + 1), S.W x, .map (S.M x), po ((S.wt x).map (·.1)), S.Q x] : Array Value).setIfInBounds j v = #[.int .i64 x, .int .u64 ((x : Int) + 1), S.W x, .map (M' x), po ((wt' x).map (·.1)), S.Q x])
    (ho : ∀ y, y ≠ x → M' y = S.M y ∧ wt' y = S.wt y)
    (hr : ∀ r i b, wt' x = some (r, i, b) → w.heap[r]? = some (.cells #[Pp i, .bool b] 118 (0, 0)) ∧ ¬ Pd N D r) :
    Rel N D T (w.setCell ⟨S.tb x, j, none⟩ v) { S with M := M', wt := wt' } ∧ Fr N D w (w.setCell ⟨S.tb x, j, none⟩ v) := by
  have hb := h.x.at_ x hx
  refine ⟨⟨fun k hk => by rw [size_set]; exact h.low k hk, by rw [size_set]; exact h.lowN, h.t.keep (Kt.setCell hb (by decide)), ⟨fun y hy => ?_, h.x.ok, h.x.inj⟩, ⟨fun y hy r i b e => ?_, fun y hy r i b e => ?_⟩, h.i.keep (Kt.setCell hb (by decide)), h.q.keep (Kt.setCell hb (by decide)), h.v.keep (Kt.setCell hb (by decide)), h.g.keep (Kt.setCell hb (by decide)), h.m.keep (Km.setCell hb)⟩, Fr.setCell (h.x.ok x hx) v⟩
  · show _ = some (Obj.cells #[.int .i64 y, .int .u64 ((y : Int) + 1), S.W y, .map (M' y), po ((wt' y).map (·.1)), S.Q y] 66 (0, 0))
    by_cases e : y = x
    · subst e
      rw [heap_setCell_same w (S.tb y) j _ 66 v hb, he]
    · obtain ⟨e1, e2⟩ := ho y e
      rw [e1, e2]
      exact (Below.heap_setCell w ⟨S.tb x, j, none⟩ v (S.tb y) (fun e' => e (h.x.inj y hy x hx e'))).trans (h.x.at_ y hy)
  · have K : w.heap[r]? = some (.cells #[Pp i, .bool b] 118 (0, 0)) := by
      by_cases e' : y = x
      · subst e'; exact (hr r i b e).1
      · exact h.r.at_ y hy r i b ((ho y e').2 ▸ e)
    exact (Kt.setCell hb (by decide) r _ K).trans K
  · by_cases e' : y = x
    · subst e'; exact (hr r i b e).2
    · exact h.r.ok y hy r i b ((ho y e').2 ▸ e)
theorem Rel.setWt0 (h : Rel N D T w S) {x : Nat} (hx : x ∈ S.hs) : Rel N D T (w.setCell ⟨S.tb x, 4, none⟩ (.pointer none)) { S with wt := upd S.wt x none } ∧ Fr N D w (w.setCell ⟨S.tb x, 4, none⟩ (.pointer none)) :=
  h.setX hx 4 _ S.M (upd S.wt x none) (by simp [upd_same, po]) (fun y hy => ⟨rfl, upd_other _ _ hy⟩) (fun r i b e => by rw [upd_same] at e; cases e)
theorem Rel.setWt (h : Rel N D T w S) {x : Nat} (hx : x ∈ S.hs) {r i : Nat} {b : Bool} (hr : w.heap[r]? = some (.cells #[Pp i, .bool b] 118 (0, 0))) (hp : ¬ Pd N D r) : Rel N D T (w.setCell ⟨S.tb x, 4, none⟩ (Pp r)) { S with wt := upd S.wt x (some (r, i, b)) } ∧ Fr N D w (w.setCell ⟨S.tb x, 4, none⟩ (Pp r)) :=
  h.setX hx 4 _ S.M (upd S.wt x (some (r, i, b))) (by simp [upd_same, po]) (fun y hy => ⟨rfl, upd_other _ _ hy⟩) (fun r' i' b' e => by rw [upd_same] at e; cases e; exact ⟨hr, hp⟩)
theorem Rel.setM (h : Rel N D T w S) {x : Nat} (hx : x ∈ S.hs) (m : Option Nat) : Rel N D T (w.setCell ⟨S.tb x, 3, none⟩ (.map m)) { S with M := upd S.M x m } ∧ Fr N D w (w.setCell ⟨S.tb x, 3, none⟩ (.map m)) :=
  h.setX hx 3 _ (upd S.M x m) S.wt (by simp [upd_same]) (fun y hy => ⟨upd_other _ _ hy, rfl⟩) (fun r i b e => ⟨h.r.at_ x hx r i b e, h.r.ok x hx r i b e⟩)

/-! ### Rows -/
theorem not_new {k : Nat} (hl : ∀ k, Pd N D k → k < w.heap.size) (hk : w.heap.size ≤ k) : ¬ Pd N D k := fun h => by have := hl k h; omega
theorem Rel.grownQ (h : Rel N D T w S) {y : Nat} (hy : y ∈ S.hs ∨ y = 64) {w1 : World} (hg : w.grownBy w1 (S.Q y).ownBlock) :
    (∀ t, t ≠ 53 → Kt t w w1) ∧ Km w w1 ∧ Fr N D w w1 ∧ (∀ k, k < w1.heap.size → True) := by
  have hr := fun k (hk : (S.Q y).ownBlock = some k) => own_tag (h.q.own y hy) hk
  exact ⟨fun t ht => Kt.grown hg hr ht, Km.grown hg hr, Fr.grown h.low hg (fun k hk => h.q.ok y hy k hk), fun _ _ => trivial⟩
theorem ptr_append (l : List Nat) (tb : Nat → Nat) (x : Nat) : ((l ++ [x]).map fun z => Pp (tb z)) = (l.map fun z => Pp (tb z)) ++ [Pp (tb x)] := by simp

theorem RQ.push {hs : List Nat} {Q : Nat → Value} {ql : Nat → List Nat} {tb : Nat → Nat} {w1 : World} (h : RQ N D w hs Q ql tb) (hl : ∀ k, Pd N D k → k < w.heap.size) {y : Nat} (hy : y ∈ hs ∨ y = 64) (hg : w.grownBy w1 (Q y).ownBlock) {v' : Value} {l' : List Nat} (ho : w1.ownsRow N 53 1 v' l'.length (l'.map fun z => Pp (tb z)))
    (hv : v'.ownBlock = (Q y).ownBlock ∨ ∃ k, v'.ownBlock = some k ∧ w.heap.size ≤ k) : RQ N D w1 hs (upd Q y v') (upd ql y l') tb := by
  have old : ∀ x, x ∈ hs ∨ x = 64 → x ≠ y → ∀ k, (Q x).ownBlock = some k → w1.heap[k]? = w.heap[k]? := fun x hx hne k hk => by
    obtain ⟨cs, hc⟩ := own_tag (h.own x hx) hk
    exact hg.block k (hlt hc) (fun e => hne (h.inj x y k hx hy hk e.symm))
  have lt : ∀ x, x ∈ hs ∨ x = 64 → ∀ k, (Q x).ownBlock = some k → k < w.heap.size := fun x hx k hk => by
    obtain ⟨cs, hc⟩ := own_tag (h.own x hx) hk
    exact hlt hc
  have clash : ∀ x k, x ∈ hs ∨ x = 64 → x ≠ y → (Q x).ownBlock = some k → v'.ownBlock = some k → False := fun x k hx hne h1 h2 => by
    rcases hv with e | ⟨k', e, hk'⟩
    · exact hne (h.inj x y k hx hy h1 (e ▸ h2))
    · rw [e] at h2
      cases h2
      have := lt x hx k h1
      omega
  refine ⟨fun x hx => ?_, fun x hx k hk => ?_, fun a b k ha hb h1 h2 => ?_⟩
  · by_cases e : x = y
    · subst e
      rw [upd_same, upd_same]
      exact ho
    · rw [upd_other _ _ e, upd_other _ _ e]
      exact own_keep (h.own x hx) (old x hx e)
  · by_cases e : x = y
    · subst e
      rw [upd_same] at hk
      rcases hv with e | ⟨k', e, hk'⟩
      · exact h.ok x hx k (e ▸ hk)
      · rw [e] at hk
        cases hk
        exact not_new hl hk'
    · rw [upd_other _ _ e] at hk
      exact h.ok x hx k hk
  · by_cases e1 : a = y <;> by_cases e2 : b = y
    · exact e1.trans e2.symm
    · subst e1
      rw [upd_same] at h1
      rw [upd_other _ _ e2] at h2
      exact (clash b k hb e2 h2 h1).elim
    · subst e2
      rw [upd_same] at h2
      rw [upd_other _ _ e1] at h1
      exact (clash a k ha e1 h1 h2).elim
    · rw [upd_other _ _ e1] at h1
      rw [upd_other _ _ e2] at h2
      exact h.inj a b k ha hb h1 h2
theorem RW.push {hs : List Nat} {W : Nat → Value} {wl : Nat → List (Nat × Int)} {w1 : World} (h : RW N D w hs W wl) (hl : ∀ k, Pd N D k → k < w.heap.size) {y : Nat} (hy : y ∈ hs) (hg : w.grownBy w1 (W y).ownBlock) {v' : Value} {l' : List (Nat × Int)} (ho : w1.ownsRow N 124 2 v' l'.length (l'.flatMap undoC))
    (hv : v'.ownBlock = (W y).ownBlock ∨ ∃ k, v'.ownBlock = some k ∧ w.heap.size ≤ k) : RW N D w1 hs (upd W y v') (upd wl y l') := by
  have old : ∀ x ∈ hs, x ≠ y → ∀ k, (W x).ownBlock = some k → w1.heap[k]? = w.heap[k]? := fun x hx hne k hk => by
    obtain ⟨cs, hc⟩ := own_tag (h.own x hx) hk
    exact hg.block k (hlt hc) (fun e => hne (h.inj x hx y hy k hk e.symm))
  have lt : ∀ x ∈ hs, ∀ k, (W x).ownBlock = some k → k < w.heap.size := fun x hx k hk => by
    obtain ⟨cs, hc⟩ := own_tag (h.own x hx) hk
    exact hlt hc
  have clash : ∀ x k, x ∈ hs → x ≠ y → (W x).ownBlock = some k → v'.ownBlock = some k → False := fun x k hx hne h1 h2 => by
    rcases hv with e | ⟨k', e, hk'⟩
    · exact hne (h.inj x hx y hy k h1 (e ▸ h2))
    · rw [e] at h2
      cases h2
      have := lt x hx k h1
      omega
  refine ⟨fun x hx => ?_, fun x hx k hk => ?_, fun a ha b hb k h1 h2 => ?_⟩
  · by_cases e : x = y
    · subst e
      rw [upd_same, upd_same]
      exact ho
    · rw [upd_other _ _ e, upd_other _ _ e]
      exact own_keep (h.own x hx) (old x hx e)
  · by_cases e : x = y
    · subst e
      rw [upd_same] at hk
      rcases hv with e | ⟨k', e, hk'⟩
      · exact h.ok x hx k (e ▸ hk)
      · rw [e] at hk
        cases hk
        exact not_new hl hk'
    · rw [upd_other _ _ e] at hk
      exact h.ok x hx k hk
  · by_cases e1 : a = y <;> by_cases e2 : b = y
    · exact e1.trans e2.symm
    · subst e1
      rw [upd_same] at h1
      rw [upd_other _ _ e2] at h2
      exact (clash b k hb e2 h2 h1).elim
    · subst e2
      rw [upd_same] at h2
      rw [upd_other _ _ e1] at h1
      exact (clash a k ha e1 h1 h2).elim
    · rw [upd_other _ _ e1] at h1
      rw [upd_other _ _ e2] at h2
      exact h.inj a ha b hb k h1 h2

/-- A transaction waits: it is laid into the waiters of y. -/
theorem Rel.pushQ (h : Rel N D T w S) {y : Nat} (hy : y ∈ S.hs) (h64 : y ≠ 64) {w1 : World} (hg : w.grownBy w1 (S.Q y).ownBlock) {v' : Value} {l' : List Nat} (ho : w1.ownsRow N 53 1 v' l'.length (l'.map fun z => Pp (S.tb z)))
    (hv : v'.ownBlock = (S.Q y).ownBlock ∨ ∃ k, v'.ownBlock = some k ∧ w.heap.size ≤ k) :
    Rel N D T (w1.setCell ⟨S.tb y, 5, none⟩ v') { S with Q := upd S.Q y v', ql := upd S.ql y l' } ∧ Fr N D w (w1.setCell ⟨S.tb y, 5, none⟩ v') := by
  obtain ⟨k1, k2, k3, _⟩ := h.grownQ (.inl hy) hg
  have hX := h.x.keep (k1 66 (by decide))
  have hb := hX.at_ y hy
  have hq := h.q.push h.low (.inl hy) hg ho hv
  have e64 : upd S.Q y v' 64 = S.Q 64 := upd_other _ _ (fun e => h64 e.symm)
  refine ⟨⟨fun k hk => by rw [size_set]; exact Nat.lt_of_lt_of_le (h.low k hk) hg.size, by rw [size_set]; exact Nat.le_trans h.lowN hg.size, ?_, ⟨fun x hx => ?_, h.x.ok, h.x.inj⟩, (h.r.keep (k1 _ (by decide))).keep (Kt.setCell hb (by decide)), (h.i.keep (k1 _ (by decide))).keep (Kt.setCell hb (by decide)), hq.keep (Kt.setCell hb (by decide)), (h.v.keep (k1 _ (by decide))).keep (Kt.setCell hb (by decide)), (h.g.keep (k1 _ (by decide))).keep (Kt.setCell hb (by decide)), (h.m.keep k2).keep (Km.setCell hb)⟩, k3.trans (Fr.setCell (h.x.ok y hy) v')⟩
  · show RT N D _ T S.th S.im S.tm S.last (upd S.Q y v' 64) S.G _
    rw [e64]
    exact (h.t.keep (k1 _ (by decide))).keep (Kt.setCell hb (by decide))
  · show _ = some (Obj.cells #[.int .i64 x, .int .u64 ((x : Int) + 1), S.W x, .map (S.M x), po ((S.wt x).map (·.1)), upd S.Q y v' x] 66 (0, 0))
    by_cases e : x = y
    · subst e
      rw [heap_setCell_same w1 (S.tb x) 5 _ 66 v' hb, upd_same]
      rfl
    · rw [upd_other _ _ e]
      exact (Below.heap_setCell w1 ⟨S.tb y, 5, none⟩ v' (S.tb x) (fun e' => e (h.x.inj x hx y hy e'))).trans (hX.at_ x hx)
/-- The begun row. -/
theorem Rel.setB (h : Rel N D T w S) {w1 : World} (h64 : 64 ∉ S.hs) (hg : w.grownBy w1 (S.Q 64).ownBlock) {v' : Value} {l' : List Nat} (ho : w1.ownsRow N 53 1 v' l'.length (l'.map fun z => Pp (S.tb z)))
    (hv : v'.ownBlock = (S.Q 64).ownBlock ∨ ∃ k, v'.ownBlock = some k ∧ w.heap.size ≤ k) :
    Rel N D T (w1.setCell ⟨T, 4, none⟩ v') { S with Q := upd S.Q 64 v', ql := upd S.ql 64 l' } ∧ Fr N D w (w1.setCell ⟨T, 4, none⟩ v') := by
  obtain ⟨k1, k2, k3, _⟩ := h.grownQ (.inr rfl) hg
  have hT := h.t.keep (k1 55 (by decide))
  have hb := hT.at_
  have hq := h.q.push h.low (.inr rfl) hg ho hv
  refine ⟨⟨fun k hk => by rw [size_set]; exact Nat.lt_of_lt_of_le (h.low k hk) hg.size, by rw [size_set]; exact Nat.le_trans h.lowN hg.size, ⟨?_, h.t.ok⟩, ⟨fun x hx => ?_, h.x.ok, h.x.inj⟩, (h.r.keep (k1 _ (by decide))).keep (Kt.setCell hb (by decide)), (h.i.keep (k1 _ (by decide))).keep (Kt.setCell hb (by decide)), hq.keep (Kt.setCell hb (by decide)), (h.v.keep (k1 _ (by decide))).keep (Kt.setCell hb (by decide)), (h.g.keep (k1 _ (by decide))).keep (Kt.setCell hb (by decide)), (h.m.keep k2).keep (Km.setCell hb)⟩, k3.trans (Fr.setCell h.t.ok v')⟩
  · show _ = some (Obj.cells #[.bool S.th, .map S.im, .map S.tm, .int .u64 S.last, upd S.Q 64 v' 64, S.G, .int .i64 0, po (S.al.map S.tb)] 55 (0, 0))
    rw [heap_setCell_same w1 T 4 _ 55 v' hb, upd_same]
    rfl
  · show _ = some (Obj.cells #[.int .i64 x, .int .u64 ((x : Int) + 1), S.W x, .map (S.M x), po ((S.wt x).map (·.1)), upd S.Q 64 v' x] 66 (0, 0))
    rw [upd_other _ _ (fun e => h64 (by rw [← e]; exact hx))]
    exact (Kt.setCell hb (by decide) _ _ ((h.x.keep (k1 66 (by decide))).at_ x hx)).trans ((h.x.keep (k1 66 (by decide))).at_ x hx)
/-- An item more among what x wrote. -/
theorem Rel.pushW (h : Rel N D T w S) {x : Nat} (hx : x ∈ S.hs) {w1 : World} (hg : w.grownBy w1 (S.W x).ownBlock) {v' : Value} {l' : List (Nat × Int)} (ho : w1.ownsRow N 124 2 v' l'.length (l'.flatMap undoC))
    (hv : v'.ownBlock = (S.W x).ownBlock ∨ ∃ k, v'.ownBlock = some k ∧ w.heap.size ≤ k) :
    Rel N D T (w1.setCell ⟨S.tb x, 2, none⟩ v') { S with W := upd S.W x v', wl := upd S.wl x l' } ∧ Fr N D w (w1.setCell ⟨S.tb x, 2, none⟩ v') := by
  have hr := fun k (hk : (S.W x).ownBlock = some k) => own_tag (h.v.own x hx) hk
  have k1 : ∀ t, t ≠ 124 → Kt t w w1 := fun t ht => Kt.grown hg hr ht
  have k2 : Km w w1 := Km.grown hg hr
  have k3 : Fr N D w w1 := Fr.grown h.low hg (fun k hk => h.v.ok x hx k hk)
  have hX := h.x.keep (k1 66 (by decide))
  have hb := hX.at_ x hx
  have hq := h.v.push h.low hx hg ho hv
  refine ⟨⟨fun k hk => by rw [size_set]; exact Nat.lt_of_lt_of_le (h.low k hk) hg.size, by rw [size_set]; exact Nat.le_trans h.lowN hg.size, (h.t.keep (k1 _ (by decide))).keep (Kt.setCell hb (by decide)), ⟨fun y hy => ?_, h.x.ok, h.x.inj⟩, (h.r.keep (k1 _ (by decide))).keep (Kt.setCell hb (by decide)), (h.i.keep (k1 _ (by decide))).keep (Kt.setCell hb (by decide)), (h.q.keep (k1 _ (by decide))).keep (Kt.setCell hb (by decide)), hq.keep (Kt.setCell hb (by decide)), (h.g.keep (k1 _ (by decide))).keep (Kt.setCell hb (by decide)), (h.m.keep k2).keep (Km.setCell hb)⟩, k3.trans (Fr.setCell (h.x.ok x hx) v')⟩
  show _ = some (Obj.cells #[.int .i64 y, .int .u64 ((y : Int) + 1), upd S.W x v' y, .map (S.M y), po ((S.wt y).map (·.1)), S.Q y] 66 (0, 0))
  by_cases e : y = x
  · subst e
    rw [heap_setCell_same w1 (S.tb y) 2 _ 66 v' hb, upd_same]
    rfl
  · rw [upd_other _ _ e]
    exact (Below.heap_setCell w1 ⟨S.tb x, 2, none⟩ v' (S.tb y) (fun e' => e (h.x.inj y hy x hx e'))).trans (hX.at_ y hy)
/-- The ignored row. -/
theorem Rel.setG (h : Rel N D T w S) {w1 : World} (hg : w.grownBy w1 S.G.ownBlock) {v' : Value} {l' : List (Int × Int)} (ho : w1.ownsRow N 150 2 v' l'.length (l'.flatMap ignC))
    (hv : v'.ownBlock = S.G.ownBlock ∨ ∃ k, v'.ownBlock = some k ∧ w.heap.size ≤ k) :
    Rel N D T (w1.setCell ⟨T, 5, none⟩ v') { S with G := v', gl := l' } ∧ Fr N D w (w1.setCell ⟨T, 5, none⟩ v') := by
  have hr := fun k (hk : S.G.ownBlock = some k) => own_tag h.g.own hk
  have k1 : ∀ t, t ≠ 150 → Kt t w w1 := fun t ht => Kt.grown hg hr ht
  have k2 : Km w w1 := Km.grown hg hr
  have k3 : Fr N D w w1 := Fr.grown h.low hg (fun k hk => h.g.ok k hk)
  have hT := h.t.keep (k1 55 (by decide))
  have hb := hT.at_
  have hG : RG N D w1 v' l' := ⟨ho, fun k hk => by
    rcases hv with e | ⟨k', e, hk'⟩
    · exact h.g.ok k (e ▸ hk)
    · rw [e] at hk
      cases hk
      exact not_new h.low hk'⟩
  refine ⟨⟨fun k hk => by rw [size_set]; exact Nat.lt_of_lt_of_le (h.low k hk) hg.size, by rw [size_set]; exact Nat.le_trans h.lowN hg.size, ⟨?_, h.t.ok⟩, (h.x.keep (k1 _ (by decide))).keep (Kt.setCell hb (by decide)), (h.r.keep (k1 _ (by decide))).keep (Kt.setCell hb (by decide)), (h.i.keep (k1 _ (by decide))).keep (Kt.setCell hb (by decide)), (h.q.keep (k1 _ (by decide))).keep (Kt.setCell hb (by decide)), (h.v.keep (k1 _ (by decide))).keep (Kt.setCell hb (by decide)), hG.keep (Kt.setCell hb (by decide)), (h.m.keep k2).keep (Km.setCell hb)⟩, k3.trans (Fr.setCell h.t.ok v')⟩
  show _ = some (Obj.cells #[.bool S.th, .map S.im, .map S.tm, .int .u64 S.last, S.Q 64, v', .int .i64 0, po (S.al.map S.tb)] 55 (0, 0))
  rw [heap_setCell_same w1 T 5 _ 55 v' hb]
  rfl

/-! ### The table's plain cells -/
theorem Rel.setLast (h : Rel N D T w S) (n : Nat) : Rel N D T (w.setCell ⟨T, 3, none⟩ (.int .u64 (n : Int))) { S with last := n } ∧ Fr N D w (w.setCell ⟨T, 3, none⟩ (.int .u64 (n : Int))) := by
  have hb := h.t.at_
  refine ⟨⟨fun k hk => by rw [size_set]; exact h.low k hk, by rw [size_set]; exact h.lowN, ⟨?_, h.t.ok⟩, h.x.keep (Kt.setCell hb (by decide)), h.r.keep (Kt.setCell hb (by decide)), h.i.keep (Kt.setCell hb (by decide)), h.q.keep (Kt.setCell hb (by decide)), h.v.keep (Kt.setCell hb (by decide)), h.g.keep (Kt.setCell hb (by decide)), h.m.keep (Km.setCell hb)⟩, Fr.setCell h.t.ok _⟩
  show _ = some (Obj.cells #[.bool S.th, .map S.im, .map S.tm, .int .u64 n, S.Q 64, S.G, .int .i64 0, po (S.al.map S.tb)] 55 (0, 0))
  rw [heap_setCell_same w T 3 _ 55 _ hb]
  rfl
theorem Rel.setAl (h : Rel N D T w S) (o : Option Nat) : Rel N D T (w.setCell ⟨T, 7, none⟩ (po (o.map S.tb))) { S with al := o } ∧ Fr N D w (w.setCell ⟨T, 7, none⟩ (po (o.map S.tb))) := by
  have hb := h.t.at_
  refine ⟨⟨fun k hk => by rw [size_set]; exact h.low k hk, by rw [size_set]; exact h.lowN, ⟨?_, h.t.ok⟩, h.x.keep (Kt.setCell hb (by decide)), h.r.keep (Kt.setCell hb (by decide)), h.i.keep (Kt.setCell hb (by decide)), h.q.keep (Kt.setCell hb (by decide)), h.v.keep (Kt.setCell hb (by decide)), h.g.keep (Kt.setCell hb (by decide)), h.m.keep (Km.setCell hb)⟩, Fr.setCell h.t.ok _⟩
  show _ = some (Obj.cells #[.bool S.th, .map S.im, .map S.tm, .int .u64 S.last, S.Q 64, S.G, .int .i64 0, po (o.map S.tb)] 55 (0, 0))
  rw [heap_setCell_same w T 7 _ 55 _ hb]
  rfl
theorem Rel.setIm (h : Rel N D T w S) (o : Option Nat) (h1 : ∀ b, o = some b → IM w b S.its ∧ ¬ Pd N D b ∧ S.tm ≠ some b) : Rel N D T (w.setCell ⟨T, 1, none⟩ (.map o)) { S with im := o } ∧ Fr N D w (w.setCell ⟨T, 1, none⟩ (.map o)) := by
  have hb := h.t.at_
  refine ⟨⟨fun k hk => by rw [size_set]; exact h.low k hk, by rw [size_set]; exact h.lowN, ⟨?_, h.t.ok⟩, h.x.keep (Kt.setCell hb (by decide)), h.r.keep (Kt.setCell hb (by decide)), h.i.keep (Kt.setCell hb (by decide)), h.q.keep (Kt.setCell hb (by decide)), h.v.keep (Kt.setCell hb (by decide)), h.g.keep (Kt.setCell hb (by decide)), RM.keep (w := w) ⟨fun b e => (h1 b e).1, fun b e => (h1 b e).2.1, h.m.tm0, h.m.ftm, h.m.tmok, fun b e e' => (h1 b e).2.2 e'⟩ (Km.setCell hb)⟩, Fr.setCell h.t.ok _⟩
  show _ = some (Obj.cells #[.bool S.th, .map o, .map S.tm, .int .u64 S.last, S.Q 64, S.G, .int .i64 0, po (S.al.map S.tb)] 55 (0, 0))
  rw [heap_setCell_same w T 1 _ 55 _ hb]
  rfl
theorem Rel.setTm (h : Rel N D T w S) (b : Nat) (h1 : TM w b S.ks S.tb) (h2 : ¬ Pd N D b) (h3 : S.im ≠ some b) : Rel N D T (w.setCell ⟨T, 2, none⟩ (.map (some b))) { S with tm := some b } ∧ Fr N D w (w.setCell ⟨T, 2, none⟩ (.map (some b))) := by
  have hb := h.t.at_
  refine ⟨⟨fun k hk => by rw [size_set]; exact h.low k hk, by rw [size_set]; exact h.lowN, ⟨?_, h.t.ok⟩, h.x.keep (Kt.setCell hb (by decide)), h.r.keep (Kt.setCell hb (by decide)), h.i.keep (Kt.setCell hb (by decide)), h.q.keep (Kt.setCell hb (by decide)), h.v.keep (Kt.setCell hb (by decide)), h.g.keep (Kt.setCell hb (by decide)), RM.keep (w := w) ⟨h.m.fim, h.m.imok, (fun e => by cases e), (fun c e => by cases e; exact h1), (fun c e => by cases e; exact h2), (fun c e e' => by cases e'; exact h3 e)⟩ (Km.setCell hb)⟩, Fr.setCell h.t.ok _⟩
  show _ = some (Obj.cells #[.bool S.th, .map S.im, .map (some b), .int .u64 S.last, S.Q 64, S.G, .int .i64 0, po (S.al.map S.tb)] 55 (0, 0))
  rw [heap_setCell_same w T 2 _ 55 _ hb]
  rfl

theorem Rel.heapEq {w' : World} (h : Rel N D T w S) (e : w'.heap = w.heap) : Rel N D T w' S := h.keep (by rw [e]; exact Nat.le_refl _) (fun t b cs _ => by rw [e]) (fun b es c _ => by rw [e])
theorem Fr.heapEq {w0 w' : World} (h : Fr N D w0 w) (e : w'.heap = w.heap) (e1 : w'.os = w.os) (e2 : w'.tape = w.tape) (e3 : w'.output = w.output) : Fr N D w0 w' := ⟨e1.trans h.os, e2.trans h.tape, e3.trans h.output, by rw [e]; exact h.size, fun k hk => by rw [e]; exact h.block k hk⟩
end
end Go.Proofs.Ybulkaggi.CE

import Derived.Test.YbulkaggiBi
import Derived.Test.YbulkaggiDb
namespace Go.Proofs.Ybulkaggi.BM
open Go.RowKit Go.Proofs.Ybulkaggi Go.Sort Go.Shelf Go.Lib
open Go.Proofs.Ybulkaggi.CE (hlt tag_ne own_tag own_keep size_set)
set_option linter.unusedVariables false
set_option maxRecDepth 100000

/-! ### The plain model -/
abbrev T3 : Type := Nat × Nat × Nat
abbrev Key : Type := Nat × Int × Int × List ByteArray
def An2.key (x : An2) : Key := (x.k, x.a, x.b, x.is)
structure Md where
  L : List O3
  sn : Nat → Bool
  f : Nat → Nat
  l : Nat → Nat
  s : Nat → Nat
def Md.c1 (M : Md) (a b : Nat) : Bool := decide (a = b) || !M.sn a || !M.sn b
def Md.c2 (M : Md) (a b : Nat) : Bool := decide (M.l b < M.f a) || decide (M.l a < M.f b)
def Md.c3 (M : Md) (a b k : Nat) : Bool := !touch M.L a k || !touch M.L b k
def Md.vis (M : Md) (t : T3) : Bool := !M.c1 t.1 t.2.1 && !M.c2 t.1 t.2.1 && !M.c3 t.1 t.2.1 t.2.2
def Md.E (M : Md) (t : T3) : Ev := ⟨M.L, t.1, t.2.1, t.2.2, M.s t.2.1⟩
/-! ### The flags of a pair, computed -/
def rdC (L : List O3) (p t j : Nat) : Bool := match L[p]? with | some o => rdB o t j | none => false
def wrC (L : List O3) (p t j : Nat) : Bool := match L[p]? with | some o => wrB o t j | none => false
theorem rdC_iff {L : List O3} {p t j : Nat} : rdC L p t j = true ↔ rdP L p t j := by
  unfold rdC rdP
  cases e : L[p]? with
  | none => simp
  | some o => simp
theorem wrC_iff {L : List O3} {p t j : Nat} : wrC L p t j = true ↔ wrP L p t j := by
  unfold wrC wrP
  cases e : L[p]? with
  | none => simp
  | some o => simp
def anyC (n : Nat) (p : Nat → Bool) : Bool := (List.range n).any p
theorem anyC_iff {n : Nat} {p : Nat → Bool} {Q : Nat → Prop} (h : ∀ x, p x = true ↔ Q x) : anyC n p = true ↔ ∃ x, x < n ∧ Q x := by
  unfold anyC
  rw [List.any_eq_true]
  constructor
  · rintro ⟨x, h1, h2⟩
    exact ⟨x, List.mem_range.1 h1, (h x).1 h2⟩
  · rintro ⟨x, h1, h2⟩
    exact ⟨x, List.mem_range.2 h1, (h x).2 h2⟩
theorem notC_iff {n q : Nat} {p : Nat → Bool} {Q : Nat → Prop} (h : ∀ x, p x = true ↔ Q x) : (!anyC n (fun x => decide (q < x) && p x)) = true ↔ ∀ x, q < x → x < n → ¬ Q x := by
  rw [Bool.not_eq_true']
  constructor
  · intro e x h1 h2 h3
    have : anyC n (fun x => decide (q < x) && p x) = true := (anyC_iff (Q := fun x => q < x ∧ Q x) (fun x => by rw [Bool.and_eq_true, decide_eq_true_eq, h])).2 ⟨x, h2, h1, h3⟩
    rw [e] at this
    cases this
  · intro e
    cases e2 : anyC n (fun x => decide (q < x) && p x) with
    | false => rfl
    | true =>
      obtain ⟨x, h1, h2, h3⟩ := (anyC_iff (Q := fun x => q < x ∧ Q x) (fun x => by rw [Bool.and_eq_true, decide_eq_true_eq, h])).1 e2
      exact absurd h3 (e x h2 h1)
def Ev.aRC (E : Ev) (u : Nat) : Bool := anyC u (fun p => rdC E.L p E.a E.j)
def Ev.bRC (E : Ev) (u : Nat) : Bool := anyC u (fun p => rdC E.L p E.b E.j)
def Ev.bWC (E : Ev) (u : Nat) : Bool := anyC u (fun p => wrC E.L p E.b E.j)
def Ev.pendC (E : Ev) (u : Nat) : Bool := anyC u (fun p => wrC E.L p E.a E.j && (E.bRC p && !anyC u (fun x => decide (p < x) && rdC E.L x E.b E.j)))
def Ev.wbC (E : Ev) (u : Nat) : Bool := anyC u (fun q => wrC E.L q E.b E.j && (E.aRC q && !anyC u (fun x => decide (q < x) && rdC E.L x E.a E.j)))
def Ev.lostC (E : Ev) (u : Nat) : Bool := anyC u (fun q => wrC E.L q E.b E.j && E.pendC q)
def Ev.nonC (E : Ev) (u : Nat) : Bool := anyC u (fun p => rdC E.L p E.a E.j && (decide (p < E.s) && E.wbC p))
def Ev.rbC (E : Ev) (u : Nat) : Bool := anyC u (fun q => wrC E.L q E.b E.j && E.aRC q)
def Ev.raC (E : Ev) (u : Nat) : Bool := anyC u (fun p => rdC E.L p E.a E.j && (decide (p < E.s) && E.bWC p))
theorem Ev.aRC_iff {E : Ev} {u : Nat} : E.aRC u = true ↔ E.aR u := anyC_iff (fun x => rdC_iff)
theorem Ev.bRC_iff {E : Ev} {u : Nat} : E.bRC u = true ↔ E.bR u := anyC_iff (fun x => rdC_iff)
theorem Ev.bWC_iff {E : Ev} {u : Nat} : E.bWC u = true ↔ E.bW u := anyC_iff (fun x => wrC_iff)
theorem Ev.pendC_iff {E : Ev} {u : Nat} : E.pendC u = true ↔ E.pend u := anyC_iff (fun x => by
  rw [Bool.and_eq_true, Bool.and_eq_true, wrC_iff, Ev.bRC_iff, notC_iff (fun x => rdC_iff)]
  rfl)
theorem Ev.wbC_iff {E : Ev} {u : Nat} : E.wbC u = true ↔ E.wb u := anyC_iff (fun x => by
  rw [Bool.and_eq_true, Bool.and_eq_true, wrC_iff, Ev.aRC_iff, notC_iff (fun x => rdC_iff)]
  rfl)
theorem Ev.lostC_iff {E : Ev} {u : Nat} : E.lostC u = true ↔ E.lost u := anyC_iff (fun x => by
  rw [Bool.and_eq_true, wrC_iff, Ev.pendC_iff]
  rfl)
theorem Ev.nonC_iff {E : Ev} {u : Nat} : E.nonC u = true ↔ E.non u := anyC_iff (fun x => by
  rw [Bool.and_eq_true, Bool.and_eq_true, rdC_iff, decide_eq_true_eq, Ev.wbC_iff]
  rfl)
theorem Ev.rbC_iff {E : Ev} {u : Nat} : E.rbC u = true ↔ E.rb u := anyC_iff (fun x => by
  rw [Bool.and_eq_true, wrC_iff, Ev.aRC_iff]
  rfl)
theorem Ev.raC_iff {E : Ev} {u : Nat} : E.raC u = true ↔ E.ra u := anyC_iff (fun x => by
  rw [Bool.and_eq_true, Bool.and_eq_true, rdC_iff, decide_eq_true_eq, Ev.bWC_iff]
  rfl)
def Md.ls (M : Md) (t : T3) : Bool := (M.E t).lostC M.L.length && (decide (M.s t.1 = M.L.length) && decide (M.s t.2.1 = M.L.length))
def Md.nr (M : Md) (t : T3) : Bool := (M.E t).nonC M.L.length
def Md.rb (M : Md) (t : T3) : Bool := (M.E t).rbC M.L.length
def Md.ra (M : Md) (t : T3) : Bool := (M.E t).raC M.L.length
theorem Md.ls_iff {M : Md} {t : T3} : M.ls t = true ↔ (M.E t).lost M.L.length ∧ M.s t.1 = M.L.length ∧ M.s t.2.1 = M.L.length := by
  unfold Md.ls
  rw [Bool.and_eq_true, Bool.and_eq_true, Ev.lostC_iff, decide_eq_true_eq, decide_eq_true_eq]
theorem Md.nr_iff {M : Md} {t : T3} : M.nr t = true ↔ (M.E t).non M.L.length := Ev.nonC_iff
theorem Md.rb_iff {M : Md} {t : T3} : M.rb t = true ↔ (M.E t).rb M.L.length := Ev.rbC_iff
theorem Md.ra_iff {M : Md} {t : T3} : M.ra t = true ↔ (M.E t).ra M.L.length := Ev.raC_iff
def SeenC (L : List O3) (i t : Nat) : Bool := anyC i (fun p => match L[p]? with | some o => decide (o.2.1 = t) | none => false)
theorem SeenC_iff {L : List O3} {i t : Nat} : SeenC L i t = true ↔ Seen L i t := anyC_iff (fun p => by
  unfold tx
  cases e : L[p]? with
  | none => simp
  | some o => simp)
def key1 (k : Nat) (t : T3) : Key := (k, (t.1 : Int), (t.2.1 : Int), [itS t.2.2])
def Md.k1 (M : Md) (t : T3) : List Key := ad (M.ls t) (key1 0 t) ++ ad (M.nr t) (key1 1 t)
def Md.k0 (M : Md) (t : T3) : List Key := if M.vis t then M.k1 t else []

/-! ### The frame of the model -/
structure FQ (N : Nat) (w w' : World) : Prop where
  bel : Below N w w'
  keep : ∀ (k : Nat) (cs : Array Value) (t : TypeId) (z : Nat × Nat), w.heap[k]? = some (Obj.cells cs t z) → t ≠ 32 → t ≠ 105 → w'.heap[k]? = some (.cells cs t z)
theorem FQ.refl (N : Nat) (w : World) : FQ N w w := ⟨Below.refl _ _, fun _ _ _ _ h _ _ => h⟩
theorem FQ.trans {N : Nat} {a b c : World} (h : FQ N a b) (h' : FQ N b c) : FQ N a c := ⟨h.bel.trans h'.bel, fun k cs t z e t1 t2 => h'.keep k cs t z (h.keep k cs t z e t1 t2) t1 t2⟩
theorem FQ.dN (N : Nat) (w : World) (k : Nat) : FQ N w (w.drewN k) := ⟨⟨rfl, rfl, rfl, Nat.le_refl _, fun _ _ => rfl⟩, fun _ _ _ _ h _ _ => h⟩
def Ar (w : World) (B : Nat) (tg : TypeId) (v : Nat → Value) : Prop := ∃ cs, w.heap[B]? = some (.cells cs tg (0, 0)) ∧ ∀ t, t ≤ 4 → cs[t]? = some (v t)
theorem Ar.at_ {w : World} {B : Nat} {tg : TypeId} {v : Nat → Value} (h : Ar w B tg v) {t : Nat} (ht : t ≤ 4) : w.cell? ⟨B, t, none⟩ = some (v t) := by
  obtain ⟨cs, h1, h2⟩ := h
  exact (cell_at h1 t).trans (h2 t ht)
theorem Ar.free {w : World} {B : Nat} {tg : TypeId} {v : Nat → Value} (h : Ar w B tg v) (t : Nat) : w.frozen? ⟨B, t, none⟩ = false := by
  obtain ⟨cs, h1, h2⟩ := h
  exact free_at h1 t
theorem Ar.lt {w : World} {B : Nat} {tg : TypeId} {v : Nat → Value} (h : Ar w B tg v) : B < w.heap.size := by
  obtain ⟨cs, h1, h2⟩ := h
  exact hlt h1
theorem Ar.keep {N : Nat} {w w' : World} {B : Nat} {tg : TypeId} {v : Nat → Value} (h : Ar w B tg v) (f : FQ N w w') (t1 : tg ≠ 32) (t2 : tg ≠ 105) : Ar w' B tg v := by
  obtain ⟨cs, h1, h2⟩ := h
  exact ⟨cs, f.keep _ _ _ _ h1 t1 t2, h2⟩
structure RC (w : World) (g F LA AB S : Nat) (M : Md) : Prop where
  ops : OpsAt w g M.L
  f : Ar w F 101 (fun t => .int .i64 (M.f t : Int))
  l : Ar w LA 101 (fun t => .int .i64 (M.l t : Int))
  s : Ar w AB 101 (fun t => .int .i64 (M.s t : Int))
  n : Ar w S 102 (fun t => .bool (M.sn t))
theorem RC.keep {N : Nat} {w w' : World} {g F LA AB S : Nat} {M : Md} (h : RC w g F LA AB S M) (f : FQ N w w') (hg : g < N) : RC w' g F LA AB S M :=
  ⟨h.ops.keep (f.bel.block g hg), h.f.keep f (by decide) (by decide), h.l.keep f (by decide) (by decide), h.s.keep f (by decide) (by decide), h.n.keep f (by decide) (by decide)⟩

/-! ### The tables of booleans -/
def Ar3 (w : World) (B : Nat) (v : T3 → Bool) : Prop := ∃ cs, w.heap[B]? = some (.cells cs 105 (0, 0)) ∧ ∀ a b k, a ≤ 4 → b ≤ 4 → k < 3 → cs[a * 15 + b * 3 + k]? = some (.bool (v (a, b, k)))
theorem Ar3.at_ {w : World} {B : Nat} {v : T3 → Bool} (h : Ar3 w B v) {a b k : Nat} (ha : a ≤ 4) (hb : b ≤ 4) (hk : k < 3) : w.cell? ⟨B, a * 15 + b * 3 + k, none⟩ = some (.bool (v (a, b, k))) := by
  obtain ⟨cs, h1, h2⟩ := h
  exact (cell_at h1 _).trans (h2 a b k ha hb hk)
theorem Ar3.free {w : World} {B : Nat} {v : T3 → Bool} (h : Ar3 w B v) (t : Nat) : w.frozen? ⟨B, t, none⟩ = false := by
  obtain ⟨cs, h1, h2⟩ := h
  exact free_at h1 t
theorem Ar3.lt {w : World} {B : Nat} {v : T3 → Bool} (h : Ar3 w B v) : B < w.heap.size := by
  obtain ⟨cs, h1, h2⟩ := h
  exact hlt h1
theorem Ar3.keep {w w' : World} {B : Nat} {v : T3 → Bool} (h : Ar3 w B v) (e : w'.heap[B]? = w.heap[B]?) : Ar3 w' B v := by
  obtain ⟨cs, h1, h2⟩ := h
  exact ⟨cs, e.trans h1, h2⟩
theorem Ar3.cong {w : World} {B : Nat} {v v' : T3 → Bool} (h : Ar3 w B v) (e : ∀ a b k, a ≤ 4 → b ≤ 4 → k < 3 → v (a, b, k) = v' (a, b, k)) : Ar3 w B v' := by
  obtain ⟨cs, h1, h2⟩ := h
  exact ⟨cs, h1, fun a b k ha hb hk => by rw [← e a b k ha hb hk]; exact h2 a b k ha hb hk⟩
theorem Ar3.set {w : World} {B : Nat} {v : T3 → Bool} (h : Ar3 w B v) {a b k : Nat} (ha : a ≤ 4) (hb : b ≤ 4) (hk : k < 3) (x : Bool) : Ar3 (w.setCell ⟨B, a * 15 + b * 3 + k, none⟩ (.bool x)) B (fun t => if t = (a, b, k) then x else v t) := by
  obtain ⟨cs, h1, h2⟩ := h
  refine ⟨_, heap_setCell_same w B _ cs 105 _ h1, fun a' b' k' ha' hb' hk' => ?_⟩
  have hs : a * 15 + b * 3 + k < cs.size := (Array.getElem?_eq_some_iff.1 (h2 a b k ha hb hk)).1
  by_cases e : (a', b', k') = (a, b, k)
  · cases e
    show _ = some (Value.bool (if (a, b, k) = (a, b, k) then x else v (a, b, k)))
    rw [if_pos rfl]
    simp [hs]
  · show _ = some (Value.bool (if (a', b', k') = (a, b, k) then x else v (a', b', k')))
    rw [if_neg e, Array.getElem?_setIfInBounds, if_neg, h2 a' b' k' ha' hb' hk']
    intro e2
    apply e
    have : a' = a ∧ b' = b ∧ k' = k := by omega
    obtain ⟨rfl, rfl, rfl⟩ := this
    rfl

structure MD (N : Nat) (w : World) (BB AA : Nat) (fl : List An2) (v : Value) (bf af : T3 → Bool) : Prop where
  row : w.ownsRow N 32 4 v fl.length (fl.flatMap encN)
  it : ∀ x ∈ fl, ItN w x ∧ N ≤ x.g
  hb : Ar3 w BB bf
  ha : Ar3 w AA af
  nba : BB ≠ AA
  lb : N ≤ BB
  la : N ≤ AA
theorem MD.dN {N : Nat} {w : World} {BB AA : Nat} {fl : List An2} {v : Value} {bf af : T3 → Bool} (h : MD N w BB AA fl v bf af) (k : Nat) : MD N (w.drewN k) BB AA fl v bf af :=
  ⟨own_keep h.row (fun _ _ => rfl), fun x hx => h.it x hx, h.hb.keep rfl, h.ha.keep rfl, h.nba, h.lb, h.la⟩
theorem MD.push {N : Nat} {w w3 : World} {BB AA : Nat} {fl : List An2} {v v' : Value} {bf af : T3 → Bool} (h : MD N w BB AA fl v bf af) (x : An2) (hx : x.g = w.heap.size) (o2 : Obj)
    (h1 : w3.ownsRow N 32 4 v' (fl.length + 1) (fl.flatMap encN ++ encN x)) (h2 : ((w.alloc (.cells (x.is.map Value.string).toArray 9)).alloc o2).grownBy w3 v.ownBlock) :
    MD N w3 BB AA (fl ++ [x]) v' bf af ∧ FQ N w w3 := by
  have hN : N ≤ w.heap.size := Nat.le_of_lt (Nat.lt_of_le_of_lt h.lb h.hb.lt)
  have K : ∀ (k : Nat) (cs : Array Value) (t : TypeId) (z : Nat × Nat), w.heap[k]? = some (.cells cs t z) → t ≠ 32 → w3.heap[k]? = some (.cells cs t z) := fun k cs t z hk ht => by
    have hl := hlt hk
    rw [h2.block k (by simp; omega) (fun e => by
      obtain ⟨cs', hc⟩ := own_tag h.row e.symm
      rw [hk] at hc
      cases hc
      exact ht rfl)]
    rw [Below.heap_alloc _ _ _ (by simp; omega), Below.heap_alloc _ _ _ hl]
    exact hk
  have K3 : ∀ {B : Nat} {u : T3 → Bool}, Ar3 w B u → Ar3 w3 B u := fun ⟨cs, e1, e2⟩ => ⟨cs, K _ _ _ _ e1 (by decide), e2⟩
  refine ⟨⟨by rw [List.flatMap_append, List.length_append]; simpa using h1, fun y hy => ?_, K3 h.hb, K3 h.ha, h.nba, h.lb, h.la⟩, ⟨⟨h2.os, h2.tape, h2.output, Nat.le_trans (by simp; omega) h2.size, fun i hi => ?_⟩, fun k cs t z hk t1 _ => K k cs t z hk t1⟩⟩
  · rcases List.mem_append.1 hy with hy | hy
    · exact ⟨K _ _ _ _ (h.it y hy).1 (by decide), (h.it y hy).2⟩
    · obtain rfl := List.mem_singleton.1 hy
      refine ⟨?_, by omega⟩
      unfold ItN
      rw [hx, h2.block _ (by simp; omega) (fun e => by have := (h.row.lt _ e.symm).2; omega), Below.heap_alloc _ _ _ (by simp)]
      exact heap_alloc_new w _
  · rw [h2.block i (by simp; omega) (fun e => by have := (h.row.lt _ e.symm).1; omega), Below.heap_alloc _ _ _ (by simp; omega), Below.heap_alloc _ _ _ (by omega)]
theorem MD.sets {N : Nat} {w : World} {BB AA : Nat} {fl : List An2} {v : Value} {bf af : T3 → Bool} (h : MD N w BB AA fl v bf af) {a b k : Nat} (ha : a ≤ 4) (hb : b ≤ 4) (hk : k < 3) (x y : Bool) :
    MD N ((w.setCell ⟨BB, a * 15 + b * 3 + k, none⟩ (.bool x)).setCell ⟨AA, a * 15 + b * 3 + k, none⟩ (.bool y)) BB AA fl v (fun t => if t = (a, b, k) then x else bf t) (fun t => if t = (a, b, k) then y else af t) ∧ FQ N w ((w.setCell ⟨BB, a * 15 + b * 3 + k, none⟩ (.bool x)).setCell ⟨AA, a * 15 + b * 3 + k, none⟩ (.bool y)) := by
  have H : ∀ j, j ≠ BB → j ≠ AA → ((w.setCell ⟨BB, a * 15 + b * 3 + k, none⟩ (.bool x)).setCell ⟨AA, a * 15 + b * 3 + k, none⟩ (.bool y)).heap[j]? = w.heap[j]? := fun j h1 h2 => by
    rw [Below.heap_setCell _ ⟨AA, _, none⟩ _ j h2, Below.heap_setCell _ ⟨BB, _, none⟩ _ j h1]
  have K : ∀ (j : Nat) (cs : Array Value) (t : TypeId) (z : Nat × Nat), w.heap[j]? = some (.cells cs t z) → t ≠ 105 → ((w.setCell ⟨BB, a * 15 + b * 3 + k, none⟩ (.bool x)).setCell ⟨AA, a * 15 + b * 3 + k, none⟩ (.bool y)).heap[j]? = some (.cells cs t z) := fun j cs t z hj ht => by
    obtain ⟨c1, e1, _⟩ := h.hb
    obtain ⟨c2, e2, _⟩ := h.ha
    rw [H j (fun e => by subst e; rw [hj] at e1; cases e1; exact ht rfl) (fun e => by subst e; rw [hj] at e2; cases e2; exact ht rfl)]
    exact hj
  refine ⟨⟨own_keep h.row (fun b hb => ?_), fun z hz => ⟨K _ _ _ _ (h.it z hz).1 (by decide), (h.it z hz).2⟩, ?_, ?_, h.nba, h.lb, h.la⟩, ⟨⟨rfl, rfl, rfl, by simp [World.setCell], fun i hi => H i (by have := h.lb; omega) (by have := h.la; omega)⟩, fun j cs t z hj _ t2 => K j cs t z hj t2⟩⟩
  · obtain ⟨cs, hc⟩ := own_tag h.row hb
    exact (K _ _ _ _ hc (by decide)).trans hc.symm
  · exact (h.hb.set ha hb hk x).keep (Below.heap_setCell _ ⟨AA, _, none⟩ _ BB h.nba)
  · exact Ar3.set (h.ha.keep (Below.heap_setCell _ ⟨BB, _, none⟩ _ AA (Ne.symm h.nba))) ha hb hk y

/-! ### The model's state, by what is done -/
def Md.bf (M : Md) (done : List T3) (t : T3) : Bool := decide (t ∈ done) && M.vis t && M.rb t
def Md.af (M : Md) (done : List T3) (t : T3) : Bool := decide (t ∈ done) && M.vis t && M.ra t
def MSt (N : Nat) (w : World) (BB AA : Nat) (v : Value) (M : Md) (done : List T3) : Prop := ∃ fl : List An2, MD N w BB AA fl v (M.bf done) (M.af done) ∧ fl.map An2.key = done.flatMap M.k0
theorem MSt.skip {N : Nat} {w : World} {BB AA : Nat} {v : Value} {M : Md} {done : List T3} (h : MSt N w BB AA v M done) {t : T3} (ht : M.vis t = false) : MSt N w BB AA v M (done ++ [t]) := by
  obtain ⟨fl, h1, h2⟩ := h
  have e : ∀ x y : Bool, ∀ u : T3, (decide (u ∈ done ++ [t]) && M.vis u && x) = (decide (u ∈ done) && M.vis u && x) := fun x _ u => by
    by_cases e : u = t
    · subst e; simp [ht]
    · simp [e]
  refine ⟨fl, ⟨h1.row, h1.it, h1.hb.cong fun a b k _ _ _ => (e _ true _).symm, h1.ha.cong fun a b k _ _ _ => (e _ true _).symm, h1.nba, h1.lb, h1.la⟩, ?_⟩
  rw [h2, List.flatMap_append]
  simp [Md.k0, ht]
theorem MSt.dN {N : Nat} {w : World} {BB AA : Nat} {v : Value} {M : Md} {done : List T3} (h : MSt N w BB AA v M done) (k : Nat) : MSt N (w.drewN k) BB AA v M done := by
  obtain ⟨fl, h1, h2⟩ := h
  exact ⟨fl, h1.dN k, h2⟩
theorem k0_len (M : Md) (t : T3) : (M.k0 t).length ≤ 2 := by
  unfold Md.k0 Md.k1
  split
  · have := ad_len (M.ls t) (key1 0 t)
    have := ad_len (M.nr t) (key1 1 t)
    simp only [List.length_append]
    omega
  · simp
theorem done_len (M : Md) (done : List T3) : (done.flatMap M.k0).length ≤ 2 * done.length := by
  induction done with
  | nil => simp
  | cons t d ih =>
    have := k0_len M t
    rw [List.flatMap_cons, List.length_append, List.length_cons]
    omega
theorem MSt.step {N : Nat} {w : World} {BB AA : Nat} {v : Value} {M : Md} {done : List T3} {fl ex : List An2} {a b k : Nat} (ha : a ≤ 4) (hb : b ≤ 4) (hk : k < 3) (h : MD N w BB AA (fl ++ ex) v (M.bf done) (M.af done)) (h2 : fl.map An2.key = done.flatMap M.k0) (hv : M.vis (a, b, k) = true) (he : ex.map An2.key = M.k1 (a, b, k)) :
    MSt N ((w.setCell ⟨BB, a * 15 + b * 3 + k, none⟩ (.bool (M.rb (a, b, k)))).setCell ⟨AA, a * 15 + b * 3 + k, none⟩ (.bool (M.ra (a, b, k)))) BB AA v M (done ++ [(a, b, k)]) ∧ FQ N w ((w.setCell ⟨BB, a * 15 + b * 3 + k, none⟩ (.bool (M.rb (a, b, k)))).setCell ⟨AA, a * 15 + b * 3 + k, none⟩ (.bool (M.ra (a, b, k)))) := by
  obtain ⟨g1, g2⟩ := h.sets ha hb hk (M.rb (a, b, k)) (M.ra (a, b, k))
  refine ⟨⟨fl ++ ex, ⟨g1.row, g1.it, g1.hb.cong fun x y z _ _ _ => ?_, g1.ha.cong fun x y z _ _ _ => ?_, g1.nba, g1.lb, g1.la⟩, ?_⟩, g2⟩
  · by_cases e : (x, y, z) = (a, b, k)
    · rw [if_pos e, e]
      simp [Md.bf, hv]
    · rw [if_neg e]
      simp [Md.bf, e]
  · by_cases e : (x, y, z) = (a, b, k)
    · rw [if_pos e, e]
      simp [Md.af, hv]
    · rw [if_neg e]
      simp [Md.af, e]
  · rw [List.map_append, List.flatMap_append, h2, he]
    simp [Md.k0, hv]
end Go.Proofs.Ybulkaggi.BM

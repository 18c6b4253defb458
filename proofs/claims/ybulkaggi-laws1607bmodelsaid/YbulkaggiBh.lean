import Derived.Test.YbulkaggiBg
import Derived.Test.YbulkaggiBd
namespace Go.Proofs.Ybulkaggi.BM
open Go.RowKit Go.Proofs.Ybulkaggi Go.Sort Go.Shelf Go.Lib
open Go.Proofs.Ybulkaggi.CE (hlt tag_ne own_tag own_keep size_set)
set_option linter.unusedVariables false
set_option maxRecDepth 100000

/-! ### The anomalies -/
structure An2 where
  k : Nat
  a : Int
  b : Int
  is : List ByteArray
  g : Nat
def kB : Nat → ByteArray
  | 0 => ⟨#[108, 111, 115, 116, 45, 117, 112, 100, 97, 116, 101]⟩
  | 1 => ⟨#[110, 111, 110, 114, 101, 112, 101, 97, 116, 97, 98, 108, 101, 45, 114, 101, 97, 100]⟩
  | _ => kindV
def encN (x : An2) : List Value := [.string (kB x.k), .int .i64 x.a, .int .i64 x.b, .slice (some ⟨x.g, 0, none⟩) x.is.length x.is.length]
def ItN (w : World) (x : An2) : Prop := w.heap[x.g]? = some (.cells (x.is.map Value.string).toArray 9 (0, 0))

/-! ### What visit leaves alone -/
def Tk (o : Obj) : Prop := ∀ cs t z, o = .cells cs t z → t ≠ 23 ∧ t ≠ 25 ∧ t ≠ 32 ∧ t ≠ 74
theorem Tk.of {cs : Array Value} {t : TypeId} {z : Nat × Nat} (h : t ≠ 23 ∧ t ≠ 25 ∧ t ≠ 32 ∧ t ≠ 74) : Tk (.cells cs t z) := fun _ _ _ e => by cases e; exact h
theorem Tk.map (es : Array MapEntry) (c : Nat) : Tk (.map es c) := fun _ _ _ e => by cases e
structure FT (N : Nat) (w w' : World) : Prop where
  bel : Below N w w'
  keep : ∀ (k : Nat) (o : Obj), w.heap[k]? = some o → Tk o → w'.heap[k]? = some o
theorem FT.refl (N : Nat) (w : World) : FT N w w := ⟨Below.refl _ _, fun _ _ h _ => h⟩
theorem FT.trans {N : Nat} {a b c : World} (h : FT N a b) (h' : FT N b c) : FT N a c := ⟨h.bel.trans h'.bel, fun k o e t => h'.keep k o (h.keep k o e t) t⟩
theorem FT.below {N : Nat} {w w' : World} (h : Below w.heap.size w w') (hN : N ≤ w.heap.size) : FT N w w' := ⟨⟨h.os, h.tape, h.output, h.size, fun i hi => h.block i (by omega)⟩, fun k o e _ => (h.block k (hlt e)).trans e⟩
theorem FT.cells {N : Nat} {w w' : World} (h : FT N w w') {k : Nat} {cs : Array Value} {t : TypeId} {z : Nat × Nat} (e : w.heap[k]? = some (.cells cs t z)) (ht : t ≠ 23 ∧ t ≠ 25 ∧ t ≠ 32 ∧ t ≠ 74) : w'.heap[k]? = some (.cells cs t z) := h.keep k _ e (Tk.of ht)
theorem FT.same {N : Nat} {w w' : World} (h : FT N w w') {k : Nat} {cs : Array Value} {t : TypeId} {z : Nat × Nat} (e : w.heap[k]? = some (.cells cs t z)) (ht : t ≠ 23 ∧ t ≠ 25 ∧ t ≠ 32 ∧ t ≠ 74) : w'.heap[k]? = w.heap[k]? := (h.cells e ht).trans e.symm

/-! ### The variables of pairs -/
structure Bx where
  o : Nat
  f : Nat
  n : Nat
  b : Nat
  i : Nat
  a : Nat
structure Ps (N : Nat) (w : World) (X : Bx) (fl : List An2) (bl al : List H) (vf vb va : Value) : Prop where
  hf : w.heap[X.f]? = some (.cells #[vf] 23 (0, 0))
  hb : w.heap[X.b]? = some (.cells #[vb] 25 (0, 0))
  ha : w.heap[X.a]? = some (.cells #[va] 25 (0, 0))
  nba : X.b ≠ X.a
  rf : w.ownsRow N 32 4 vf fl.length (fl.flatMap encN)
  rb : w.ownsRow N 74 3 vb bl.length (flatH bl)
  ra : w.ownsRow N 74 3 va al.length (flatH al)
  nr : ∀ k, vb.ownBlock = some k → va.ownBlock = some k → False
  it : ∀ x ∈ fl, ItN w x ∧ N ≤ x.g
  lf : N ≤ X.f
  lb : N ≤ X.b
  la : N ≤ X.a

theorem Ps.below {N : Nat} {w w' : World} {X : Bx} {fl : List An2} {bl al : List H} {vf vb va : Value} (h : Ps N w X fl bl al vf vb va) (e : Below w.heap.size w w') : Ps N w' X fl bl al vf vb va := by
  have k : ∀ {i : Nat} {o : Obj}, w.heap[i]? = some o → w'.heap[i]? = some o := fun h => (e.block _ (hlt h)).trans h
  have r : ∀ {t : TypeId} {s n : Nat} {v : Value} {xs : List Value}, w.ownsRow N t s v n xs → w'.ownsRow N t s v n xs := fun h => own_keep h (fun b hb => e.block b (h.lt b hb).2)
  exact ⟨k h.hf, k h.hb, k h.ha, h.nba, r h.rf, r h.rb, r h.ra, h.nr, fun x hx => ⟨k (h.it x hx).1, (h.it x hx).2⟩, h.lf, h.lb, h.la⟩

section
variable {N : Nat} {w w3 wx : World} {X : Bx} {fl : List An2} {bl al : List H} {vf vb va v' : Value}
/-- The world behind an append and the store of the slice: what is not turned. -/
theorem push_keep {bx : Nat} {o : Obj} {r : Option Nat} (h2 : (w.alloc o).grownBy w3 r) (e0 : wx.heap = (w3.setCell ⟨bx, 0, none⟩ v').heap) {k : Nat} (hk : k < w.heap.size) (h1 : some k ≠ r) (h3 : k ≠ bx) : wx.heap[k]? = w.heap[k]? := by
  rw [e0, Below.heap_setCell w3 ⟨bx, 0, none⟩ v' k h3, h2.block k (by simp; omega) h1]
  exact Below.heap_alloc _ _ _ hk
theorem push_box {bx : Nat} {o : Obj} {r : Option Nat} {t : TypeId} {v : Value} (h2 : (w.alloc o).grownBy w3 r) (e0 : wx.heap = (w3.setCell ⟨bx, 0, none⟩ v').heap) (hb : w.heap[bx]? = some (.cells #[v] t (0, 0))) (hn : some bx ≠ r) : wx.heap[bx]? = some (.cells #[v'] t (0, 0)) ∧ w3.heap[bx]? = some (.cells #[v] t (0, 0)) := by
  have e : w3.heap[bx]? = some (.cells #[v] t (0, 0)) := by
    rw [h2.block bx (by have := hlt hb; simp; omega) hn]
    exact (Below.heap_alloc _ _ _ (hlt hb)).trans hb
  refine ⟨?_, e⟩
  rw [e0, heap_setCell_same w3 bx 0 _ t v' e]
  rfl
theorem push_row {bx : Nat} {t : TypeId} {s n : Nat} {xs : List Value} {t' : TypeId} {v : Value} (h1 : w3.ownsRow N t s v' n xs) (e0 : wx.heap = (w3.setCell ⟨bx, 0, none⟩ v').heap) (hb : w3.heap[bx]? = some (.cells #[v] t' (0, 0))) (ht : t ≠ t') : wx.ownsRow N t s v' n xs := by
  refine own_keep h1 (fun b hb' => ?_)
  obtain ⟨cs, hc⟩ := own_tag h1 hb'
  rw [e0]
  exact Below.heap_setCell w3 ⟨bx, 0, none⟩ v' b (tag_ne hc hb ht)
theorem push_below {bx : Nat} {o : Obj} {r : Option Nat} (hN : N ≤ w.heap.size) (h2 : (w.alloc o).grownBy w3 r) (hr : ∀ k, r = some k → N ≤ k) (e0 : wx.heap = (w3.setCell ⟨bx, 0, none⟩ v').heap) (hbx : N ≤ bx) (e1 : wx.os = w3.os) (e2 : wx.tape = w3.tape) (e3 : wx.output = w3.output) : Below N w wx := by
  refine ⟨e1.trans h2.os, e2.trans h2.tape, e3.trans h2.output, ?_, fun i hi => push_keep h2 e0 (by omega) (fun e => by have := hr i e.symm; omega) (by omega)⟩
  rw [e0, size_set]
  exact Nat.le_trans (by simp) h2.size

theorem Ps.pushF (h : Ps N w X fl bl al vf vb va) (o : Obj) (x : An2) (hx : ItN w x) (hxN : N ≤ x.g) (h1 : w3.ownsRow N 32 4 v' (fl.length + 1) (fl.flatMap encN ++ encN x)) (h2 : (w.alloc o).grownBy w3 vf.ownBlock)
    (e0 : wx.heap = (w3.setCell ⟨X.f, 0, none⟩ v').heap) (e1 : wx.os = w3.os) (e2 : wx.tape = w3.tape) (e3 : wx.output = w3.output) : Ps N wx X (fl ++ [x]) bl al v' vb va ∧ FT N w wx := by
  have hne : ∀ {k : Nat} {cs : Array Value} {t : TypeId}, w.heap[k]? = some (.cells cs t (0, 0)) → t ≠ 32 → some k ≠ vf.ownBlock := fun hk ht e => by
    obtain ⟨cs, hc⟩ := own_tag h.rf e.symm
    exact tag_ne hk hc ht rfl
  have K : ∀ {k : Nat} {cs : Array Value} {t : TypeId}, w.heap[k]? = some (.cells cs t (0, 0)) → t ≠ 32 → t ≠ 23 → wx.heap[k]? = some (.cells cs t (0, 0)) := fun hk t1 t2 => (push_keep h2 e0 (hlt hk) (hne hk t1) (tag_ne hk h.hf t2)).trans hk
  obtain ⟨b1, b2⟩ := push_box h2 e0 h.hf (hne h.hf (by decide))
  have R : ∀ {s n : Nat} {v : Value} {xs : List Value}, w.ownsRow N 74 s v n xs → wx.ownsRow N 74 s v n xs := fun hr => own_keep hr (fun b hb => by
    obtain ⟨cs, hc⟩ := own_tag hr hb
    exact (K hc (by decide) (by decide)).trans hc.symm)
  refine ⟨⟨b1, K h.hb (by decide) (by decide), K h.ha (by decide) (by decide), h.nba, by rw [List.flatMap_append, List.length_append]; simpa using push_row h1 e0 b2 (by decide), R h.rb, R h.ra, h.nr, fun y hy => ?_, h.lf, h.lb, h.la⟩, push_below (Nat.le_of_lt (Nat.lt_of_le_of_lt h.lf (hlt h.hf))) h2 (fun k hk => (h.rf.lt k hk).1) e0 h.lf e1 e2 e3, fun k ob hk ht => ?_⟩
  · rcases List.mem_append.1 hy with hy | hy
    · exact ⟨K (h.it y hy).1 (by decide) (by decide), (h.it y hy).2⟩
    · obtain rfl := List.mem_singleton.1 hy
      exact ⟨K hx (by decide) (by decide), hxN⟩
  · refine (push_keep h2 e0 (hlt hk) (fun e => ?_) (fun e => ?_)).trans hk
    · obtain ⟨cs, hc⟩ := own_tag h.rf e.symm
      rw [hc] at hk
      cases hk
      exact (ht _ _ _ rfl).2.2.1 rfl
    · subst e
      have := h.hf
      rw [hk] at this
      cases this
      exact (ht _ _ _ rfl).1 rfl

theorem Ps.pushB (h : Ps N w X fl bl al vf vb va) (o : Obj) (x : H) (h1 : w3.ownsRow N 74 3 v' (bl.length + 1) (flatH bl ++ encH x)) (h2 : (w.alloc o).grownBy w3 vb.ownBlock) (h3 : v'.ownBlock = vb.ownBlock ∨ v'.ownBlock = some (w.alloc o).heap.size)
    (e0 : wx.heap = (w3.setCell ⟨X.b, 0, none⟩ v').heap) (e1 : wx.os = w3.os) (e2 : wx.tape = w3.tape) (e3 : wx.output = w3.output) : Ps N wx X fl (bl ++ [x]) al vf v' va ∧ FT N w wx := by
  have hne : ∀ {k : Nat} {cs : Array Value} {t : TypeId}, w.heap[k]? = some (.cells cs t (0, 0)) → t ≠ 74 → some k ≠ vb.ownBlock := fun hk ht e => by
    obtain ⟨cs, hc⟩ := own_tag h.rb e.symm
    exact tag_ne hk hc ht rfl
  have K : ∀ {k : Nat} {cs : Array Value} {t : TypeId}, w.heap[k]? = some (.cells cs t (0, 0)) → t ≠ 74 → k ≠ X.b → wx.heap[k]? = some (.cells cs t (0, 0)) := fun hk t1 t2 => (push_keep h2 e0 (hlt hk) (hne hk t1) t2).trans hk
  obtain ⟨b1, b2⟩ := push_box h2 e0 h.hb (hne h.hb (by decide))
  refine ⟨⟨K h.hf (by decide) (tag_ne h.hf h.hb (by decide)), b1, K h.ha (by decide) (Ne.symm h.nba), h.nba, ?_, ?_, ?_, fun k g1 g2 => ?_, fun y hy => ?_, h.lf, h.lb, h.la⟩, push_below (Nat.le_of_lt (Nat.lt_of_le_of_lt h.lf (hlt h.hf))) h2 (fun k hk => (h.rb.lt k hk).1) e0 h.lb e1 e2 e3, fun k ob hk ht => ?_⟩
  · refine own_keep h.rf (fun b hb => ?_)
    obtain ⟨cs, hc⟩ := own_tag h.rf hb
    exact (K hc (by decide) (tag_ne hc h.hb (by decide))).trans hc.symm
  · have := push_row h1 e0 b2 (by decide)
    rw [List.length_append]
    unfold flatH at this ⊢
    rw [List.flatMap_append]
    simpa using this
  · refine own_keep h.ra (fun b hb => ?_)
    obtain ⟨cs, hc⟩ := own_tag h.ra hb
    exact push_keep h2 e0 (hlt hc) (fun e => h.nr b e.symm hb) (tag_ne hc h.hb (by decide))
  · rcases h3 with e | e
    · exact h.nr k (e ▸ g1) g2
    · rw [e] at g1
      cases g1
      have := (h.ra.lt _ g2).2
      simp at this
      omega
  · exact ⟨K (h.it y hy).1 (by decide) (tag_ne (h.it y hy).1 h.hb (by decide)), (h.it y hy).2⟩
  · refine (push_keep h2 e0 (hlt hk) (fun e => ?_) (fun e => ?_)).trans hk
    · obtain ⟨cs, hc⟩ := own_tag h.rb e.symm
      rw [hc] at hk
      cases hk
      exact (ht _ _ _ rfl).2.2.2 rfl
    · subst e
      have := h.hb
      rw [hk] at this
      cases this
      exact (ht _ _ _ rfl).2.1 rfl
/-- before and after, the other way round. -/
theorem Ps.swap (h : Ps N w X fl bl al vf vb va) : Ps N w { X with b := X.a, a := X.b } fl al bl vf va vb := ⟨h.hf, h.ha, h.hb, Ne.symm h.nba, h.rf, h.ra, h.rb, fun k a b => h.nr k b a, h.it, h.lf, h.la, h.lb⟩
theorem Ps.pushA (h : Ps N w X fl bl al vf vb va) (o : Obj) (x : H) (h1 : w3.ownsRow N 74 3 v' (al.length + 1) (flatH al ++ encH x)) (h2 : (w.alloc o).grownBy w3 va.ownBlock) (h3 : v'.ownBlock = va.ownBlock ∨ v'.ownBlock = some (w.alloc o).heap.size)
    (e0 : wx.heap = (w3.setCell ⟨X.a, 0, none⟩ v').heap) (e1 : wx.os = w3.os) (e2 : wx.tape = w3.tape) (e3 : wx.output = w3.output) : Ps N wx X fl bl (al ++ [x]) vf vb v' ∧ FT N w wx := by
  obtain ⟨a, b⟩ := h.swap.pushB o x h1 h2 h3 e0 e1 e2 e3
  exact ⟨a.swap, b⟩
end
end Go.Proofs.Ybulkaggi.BM

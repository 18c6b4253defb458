import Derived.Test.YbulkaggiCm
import Derived.Test.YbulkaggiCj
import Derived.Laws.CopyRow
namespace Go.Proofs.Ybulkaggi.CE
open Go.RowKit Go.WideMaps Go.Maps
set_option linter.unusedVariables false
set_option maxRecDepth 100000

/-! ### The row of the aborted -/
def AB (w : World) (ab : Nat) : Prop := ∃ cs : Array Value, w.heap[ab]? = some (.cells cs 4 (0, 0)) ∧ cs.size = 64 ∧ ∀ k, k < 64 → ∃ v : Bool, cs[k]? = some (.bool v)
theorem AB.keep {w w' : World} {ab : Nat} (h : AB w ab) (hb : w'.heap[ab]? = w.heap[ab]?) : AB w' ab := by
  obtain ⟨cs, h1, h2⟩ := h
  exact ⟨cs, hb.trans h1, h2⟩
theorem AB.cell {w : World} {ab : Nat} (h : AB w ab) {k : Nat} (hk : k < 64) : ∃ v : Bool, w.cell? ⟨ab, k, none⟩ = some (.bool v) := by
  obtain ⟨cs, h1, _, h3⟩ := h
  obtain ⟨v, hv⟩ := h3 k hk
  exact ⟨v, (cell_at h1 k).trans hv⟩
theorem AB.free {w : World} {ab : Nat} (h : AB w ab) (k : Nat) : w.frozen? ⟨ab, k, none⟩ = false := by
  obtain ⟨cs, h1, _⟩ := h
  exact free_at h1 k
theorem AB.set {w : World} {ab : Nat} (h : AB w ab) {k : Nat} (hk : k < 64) (b : Bool) : AB (w.setCell ⟨ab, k, none⟩ (.bool b)) ab := by
  obtain ⟨cs, h1, h2, h3⟩ := h
  refine ⟨_, heap_setCell_same w ab k cs 4 (.bool b) h1, by simpa using h2, fun j hj => ?_⟩
  by_cases e : j = k
  · subst e
    exact ⟨b, by simp [h2, hk]⟩
  · obtain ⟨v, hv⟩ := h3 j hj
    exact ⟨v, by rw [Array.getElem?_setIfInBounds_ne (fun e' => e e'.symm)]; exact hv⟩
theorem AB.lt {w : World} {ab : Nat} (h : AB w ab) : ab < w.heap.size := by
  obtain ⟨cs, h1, _⟩ := h
  exact hlt h1
theorem AB.tag {w : World} {ab : Nat} (h : AB w ab) {b : Nat} {cs : Array Value} {t : TypeId} (hb : w.heap[b]? = some (.cells cs t (0, 0))) (ht : t ≠ 4) : ab ≠ b := by
  obtain ⟨cs', h1, _⟩ := h
  exact tag_ne h1 hb (fun e => ht e.symm)

/-! ### What lies below is kept -/
theorem Rel.below {N : Nat} {D : List Nat} {T : Nat} {w w' : World} {S : St} (h : Rel N D T w S) (hb : Below w.heap.size w w') : Rel N D T w' S := h.keep hb.size (fun t x xs hx => hb.block x (hlt hx)) (fun x es c hx => hb.block x (hlt hx))
theorem Rel.belowD {N : Nat} {D : List Nat} {T : Nat} {w w' : World} {S : St} (h : Rel N D T w S) (hb : Below w.heap.size w w') {k : Nat} (h1 : w.heap.size ≤ k) (h2 : k < w'.heap.size) : Rel N (k :: D) T w' S := h.fresh hb.size (fun t x xs hx => hb.block x (hlt hx)) (fun x es c hx => hb.block x (hlt hx)) h1 h2
theorem Fr.below {N : Nat} {D : List Nat} {w w' : World} (hl : ∀ k, Pd N D k → k < w.heap.size) (hb : Below w.heap.size w w') : Fr N D w w' := ⟨hb.os, hb.tape, hb.output, hb.size, fun k hk => hb.block k (hl k hk)⟩

/-! ### copy(wrote, tx.wrote) -/
theorem run_copy2 (w : World) (ty : TypeId) (g m dc sc : Nat) (a : Addr) (cur : Array Value) (t : TypeId) (cs : List Value) (hg : w.heap[g]? = some (.cells cur t (0, 0))) (hn : cs.length = m * 2)
    (hsrc : ∀ j v, cs[j]? = some v → w.cell? (a.add j) = some v) (hfit : cs.length ≤ cur.size) (h1 : ∀ v ∈ cs, v.oneCell' = true) :
    (Builtin.copy_ #[62, 62] ty #[.slice (some ⟨g, 0, none⟩) m dc, .slice (some a) m sc]).run Yba.prog w = .ok (goInt m) (w.setRow g (cs ++ cur.toList.drop cs.length).toArray) := by
  have hl := run_loadCells_list (P := Yba.prog) w a cs hsrc
  have hst := run_storeCells_at Yba.prog g 0 t cs 0 cur w hg (by simpa using hfit) h1
  obtain ⟨i, hi, _, hs, _⟩ := info_at info124
  rw [hn] at hl
  simp [Builtin.copy_, run_underlying Yba.underlying62, Builtin.lenOf, Builtin.firstCells, sizeOf, typeInfo, hi, hs, hl, hst]
theorem copyU {w : World} {g m N wk : Nat} {wa : Option Addr} {xs : List Value} {l : List (Nat × Int)} (hd : w.ownsRow 0 124 2 (.slice (some ⟨g, 0, none⟩) m m) m xs) (hs : w.ownsRow N 124 2 (.slice wa m wk) m (l.flatMap undoC)) (hl : l.length = m) :
    ∃ w', (∀ ty, (Builtin.copy_ #[62, 62] ty #[.slice (some ⟨g, 0, none⟩) m m, .slice wa m wk]).run Yba.prog w = .ok (.int .i64 (m : Int)) w') ∧ w.grownBy w' (some g) ∧ w'.heap.size = w.heap.size ∧
      (∀ k (hk : k < l.length), w'.cell? ⟨g, k * 2, none⟩ = some (Pp (l[k]).1) ∧ w'.cell? ⟨g, k * 2 + 1, none⟩ = some (.int .u64 (l[k]).2)) ∧ ∃ cs, w'.heap[g]? = some (.cells cs 124 (0, 0)) := by
  rcases hd.2 with ⟨h0, _⟩ | ⟨g', cap, cur, h', _, hg, hnc, hcm, hcs, htk⟩
  · simp at h0
  · simp only [Value.slice.injEq, Option.some.injEq, Addr.mk.injEq, and_true, true_and] at h'
    obtain ⟨rfl, rfl⟩ := h'
    have hlen : (l.flatMap undoC).length = m * 2 := hs.1
    rcases hs.2 with ⟨h0, hm⟩ | ⟨s, cap', cur', h', _, hg', hnc', hcm', hcs', htk'⟩
    · simp at h0
      obtain ⟨rfl, rfl, rfl⟩ := h0
      refine ⟨w, fun ty => ?_, World.grownBy.refl _ _, rfl, fun k hk => by omega, _, hg⟩
      have := run_copy_nil (P := Yba.prog) w 62 62 ty 124 ⟨g, 0, none⟩ 0 0 Yba.underlying62 (by obtain ⟨i, hi, _⟩ := info_at info124; rw [hi]; rfl)
      exact this
    · simp only [Value.slice.injEq, true_and] at h'
      obtain ⟨rfl, rfl⟩ := h'
      have hc : ∀ ty, _ := fun ty => run_copy2 w ty g m m wk ⟨s, 0, none⟩ cur 124 (l.flatMap undoC) hg hlen (fun j v hj => by
        have e : (⟨s, 0, none⟩ : Addr).add j = ⟨s, j, none⟩ := by unfold Addr.add; split <;> simp_all
        have hlt : j < m * 2 := by
          have := (List.getElem?_eq_some_iff.1 hj).1
          omega
        rw [e, hs.cellAt j hlt]
        exact hj) (by omega) (fun v hv => by
          obtain ⟨p, _, hp⟩ := List.mem_flatMap.1 hv
          simp [undoC] at hp
          rcases hp with rfl | rfl <;> rfl)
      have hset := setRow_heap w g cur ((l.flatMap undoC) ++ cur.toList.drop (l.flatMap undoC).length).toArray 124 (0, 0) hg
      refine ⟨_, hc, ⟨rfl, rfl, rfl, by simp [World.setRow], fun k hk hne => setRow_other w g k _ (fun e => hne (by rw [e]))⟩, by simp [World.setRow], fun k hk => ?_, _, hset⟩
      obtain ⟨u1, u2⟩ := undo_at l k hk
      constructor
      · rw [cell_at hset, List.getElem?_toArray, List.getElem?_append_left (by omega)]
        exact u1
      · rw [cell_at hset, List.getElem?_toArray, List.getElem?_append_left (by omega)]
        exact u2

/-! ### What the check ends with -/
structure CheckRes (N : Nat) (D0 D : List Nat) (T : Nat) (w : World) (S : St) (x c ab : Nat) (w' : World) (S' : St) : Prop where
  rel : Rel N D T w' S'
  fr : Fr N D0 w w'
  ab : AB w' ab
  inv : Inv (c + 64) S'
  hs : S'.hs = S.hs.erase x
  ks : S'.ks = S.hs.erase x
  l64 : S'.ql 64 = S.hs.erase x
  al : S'.al = none
  last : S'.last = S.last
  tm : S'.tm = S.tm
def CheckPost (N : Nat) (D0 D : List Nat) (T : Nat) (w : World) (S : St) (x c ab : Nat) (e : Ending) (w' : World) : Prop :=
  e = .returned (.bool true) ∧ ∃ S', CheckRes N D0 D T w S x c ab w' S'
end Go.Proofs.Ybulkaggi.CE

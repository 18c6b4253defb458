import Derived.Test.YbulkaggiE2
import Derived.Shelf.GgSortFunc.InsertionK
namespace Go.Proofs.Ybulkaggi
open Go.RowKit Go.Sort
set_option linter.unusedVariables false

/-- A world that has turned in block g alone, and may have grown. -/
structure At1 (g : Nat) (w w' : World) : Prop where
  os : w'.os = w.os
  tape : w'.tape = w.tape
  output : w'.output = w.output
  size : w.heap.size ≤ w'.heap.size
  block : ∀ k, k < w.heap.size → k ≠ g → w'.heap[k]? = w.heap[k]?

theorem At1.trans {g : Nat} {a b c : World} (h : At1 g a b) (k : At1 g b c) : At1 g a c :=
  ⟨k.os.trans h.os, k.tape.trans h.tape, k.output.trans h.output, Nat.le_trans h.size k.size, fun i hi ho => (k.block i (Nat.lt_of_lt_of_le hi h.size) ho).trans (h.block i hi ho)⟩
theorem At1.below {g B : Nat} {a b : World} (h : At1 g a b) (hB : B ≤ g) (hs : B ≤ a.heap.size) : Below B a b :=
  ⟨h.os, h.tape, h.output, h.size, fun k hk => h.block k (by omega) (by omega)⟩
theorem At1.cell {g : Nat} {a b : World} (h : At1 g a b) {p : Addr} {v : Value} (hp : a.cell? p = some v) (ho : p.block ≠ g) : b.cell? p = some v :=
  (World.cell?_of_block (w := a) (h.block p.block (World.block_lt_of_cell? a p hp) ho)).trans hp
theorem At1.own {g : Nat} {a b : World} {base : Nat} {e : TypeId} {size g' cp n : Nat} {xs : List Value} (h : At1 g a b) (ho : a.ownsRow base e size (.slice (some ⟨g', 0, none⟩) n cp) n xs) (hne : g' ≠ g) : b.ownsRow base e size (.slice (some ⟨g', 0, none⟩) n cp) n xs := by
  refine ⟨ho.1, ?_⟩
  rcases ho.2 with ⟨h', _⟩ | ⟨g2, cap, cur, h', hb, hg, rest⟩
  · simp at h'
  · simp only [Value.slice.injEq, Option.some.injEq, Addr.mk.injEq, and_true, true_and] at h'
    obtain ⟨rfl, rfl⟩ := h'
    exact .inr ⟨g', cp, cur, rfl, hb, (h.block g' (Array.getElem?_eq_some_iff.1 hg).1 hne).trans hg, rest⟩

section
variable {α : Type} {enc : α → List Value} {k : Nat}

theorem flat_length (hk : ∀ x, (enc x).length = k) (l : List α) : (l.flatMap enc).length = l.length * k := by
  induction l with
  | nil => simp
  | cons x l ih => rw [List.flatMap_cons, List.length_append, ih, hk, List.length_cons, Nat.add_mul, Nat.one_mul, Nat.add_comm]

theorem flat_get (hk : ∀ x, (enc x).length = k) (l : List α) (i : Nat) (hi : i < l.length) (j : Nat) (hj : j < k) : (l.flatMap enc)[i * k + j]? = (enc l[i])[j]? := by
  induction l generalizing i with
  | nil => simp at hi
  | cons x l ih =>
    cases i with
    | zero =>
      simp only [List.flatMap_cons, Nat.zero_mul, Nat.zero_add, List.getElem_cons_zero]
      rw [List.getElem?_append_left (by rw [hk]; exact hj)]
    | succ i =>
      have hi' : i < l.length := by simpa using hi
      have h := ih i hi'
      simp only [List.flatMap_cons, List.getElem_cons_succ]
      rw [List.getElem?_append_right (by rw [hk, Nat.add_mul, Nat.one_mul]; omega), ← h]
      congr 1
      rw [hk, Nat.add_mul, Nat.one_mul]; omega

theorem flatK_eq [Inhabited α] (hk : ∀ x, (enc x).length = k) (d : Array α) : (flatK enc k d).toList = d.toList.flatMap enc := by
  apply List.ext_getElem?
  intro t
  by_cases ht : t < d.size * k
  · have k0 : 0 < k := by rcases Nat.eq_zero_or_pos k with h | h; · subst h; simp at ht
                          · exact h
    have hq : t / k < d.size := Nat.div_lt_of_lt_mul (by rwa [Nat.mul_comm])
    have hr : t % k < k := Nat.mod_lt _ k0
    have e : t / k * k + t % k = t := by rw [Nat.mul_comm]; exact Nat.div_add_mod t k
    have h := flat_get hk d.toList (t / k) (by simpa using hq) (t % k) hr
    rw [e] at h
    rw [h, Array.getElem?_toList, Array.getElem?_eq_getElem (by simpa using ht)]
    have g := get_flatK enc k d t ht
    rw [getElem!_pos _ t (by simpa using ht), getElem!_pos d _ hq, getElem!_pos _ _ (by rw [hk]; exact hr)] at g
    rw [g, List.getElem?_eq_getElem (by rw [hk]; exact hr)]
    simp
  · rw [List.getElem?_eq_none (by simp; omega), List.getElem?_eq_none (by rw [flat_length hk]; simpa using ht)]

theorem own_holdsK [Inhabited α] (hk : ∀ x, (enc x).length = k) {w : World} {g n cp base : Nat} {e : TypeId} {d : Array α} (ho : w.ownsRow base e k (.slice (some ⟨g, 0, none⟩) n cp) n (d.toList.flatMap enc)) (hn : d.size = n) : HoldsK enc k w g 0 d := by
  intro j hj
  have hj' : j < d.size * k := by simpa using hj
  refine ⟨?_, ho.frozenAt _⟩
  rw [Nat.zero_add, ho.cellAt j (by rw [← hn]; exact hj'), ← flatK_eq hk, Array.getElem?_toList, Array.getElem?_eq_getElem hj, getElem!_pos _ j hj]
  rfl

theorem own_sorted [Inhabited α] (hk : ∀ x, (enc x).length = k) {w : World} {g n cp base m : Nat} {e : TypeId} {xs : List Value} {d : Array α} {os : Array Obj} (ho : w.ownsRow base e k (.slice (some ⟨g, 0, none⟩) n cp) n xs) (hn : d.size = n) :
    (sortWorldK enc k w g 0 m d os).ownsRow base e k (.slice (some ⟨g, 0, none⟩) n cp) n (d.toList.flatMap enc) ∧ At1 g w (sortWorldK enc k w g 0 m d os) := by
  rcases ho.2 with ⟨h', _⟩ | ⟨g2, cap, cur, h', hb, hg, hnc, hcm, hcs, htake⟩
  · simp at h'
  · simp only [Value.slice.injEq, Option.some.injEq, Addr.mk.injEq, and_true, true_and] at h'
    obtain ⟨rfl, rfl⟩ := h'
    have hlt := (Array.getElem?_eq_some_iff.1 hg).1
    have hb' : (putRowK enc k (Sort.ahead w m) g 0 d).heap[g]? = some (.cells (putCells id 0 (flatK enc k d) cur) e (0, 0)) := by
      unfold putRowK putRow mapBlock
      simp only [Array.getElem?_modify, if_true]
      show Option.map _ (w.heap[g]?) = _
      rw [hg]; rfl
    have hsz : (putRowK enc k (Sort.ahead w m) g 0 d).heap.size = w.heap.size := by
      unfold putRowK putRow mapBlock
      simp [Sort.ahead]
    refine ⟨⟨by rw [flat_length hk]; simp [hn], .inr ⟨g, cp, putCells id 0 (flatK enc k d) cur, rfl, hb, ?_, hnc, hcm, by simpa [putCells] using hcs, ?_⟩⟩, ⟨rfl, rfl, rfl, ?_, ?_⟩⟩
    · unfold sortWorldK
      rw [heap_grow_old _ _ (by rw [hsz]; exact hlt)]
      exact hb'
    · rw [← flatK_eq hk]
      apply List.ext_getElem?
      intro t
      rw [List.getElem?_take]
      by_cases ht : t < n * k
      · have hc : t < cur.size := by rw [hcs]; exact Nat.lt_of_lt_of_le ht (Nat.mul_le_mul_right k hnc)
        have hf : t < (flatK enc k d).size := by rw [size_flatK, hn]; exact ht
        rw [if_pos ht, Array.getElem?_toList, Array.getElem?_toList, Array.getElem?_eq_getElem hf]
        simp only [putCells, Array.getElem?_mapIdx, Array.getElem?_eq_getElem hc, Option.map_some]
        rw [if_pos ⟨Nat.zero_le _, by rw [Nat.zero_add]; exact hf⟩, Nat.sub_zero, getElem!_pos _ t hf]
        rfl
      · rw [if_neg ht, List.getElem?_eq_none (by simp [hn]; omega)]
    · unfold sortWorldK
      simp [hsz]
    · intro x hx hne
      unfold sortWorldK
      rw [heap_grow_old _ _ (by rw [hsz]; exact hx)]
      unfold putRowK putRow mapBlock
      simp only [Array.getElem?_modify, if_neg (Ne.symm hne)]
      rfl
end

end Go.Proofs.Ybulkaggi

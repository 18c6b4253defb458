import Derived.Test.YbulkagdqDoorV0
namespace Go.Proofs.YbulkagdqDoor
open Go.RowKit
set_option linter.unusedVariables false

theorem heap_new_at (w : World) (o : Obj) (k : Nat) (hk : k = w.heap.size) : (w.alloc o).heap[k]? = some o := by subst hk; exact heap_alloc_new' w o

theorem alloc8 (w : World) (o0 o1 o2 o3 o4 o5 o6 o7 : Obj) (W : World) (hW : W = (((((((w.alloc o0).alloc o1).alloc o2).alloc o3).alloc o4).alloc o5).alloc o6).alloc o7) :
    W.heap[w.heap.size]? = some o0 ∧ W.heap[w.heap.size + 1]? = some o1 ∧ W.heap[w.heap.size + 1 + 1]? = some o2 ∧ W.heap[w.heap.size + 1 + 1 + 1]? = some o3 ∧ W.heap[w.heap.size + 1 + 1 + 1 + 1]? = some o4 ∧ W.heap[w.heap.size + 1 + 1 + 1 + 1 + 1]? = some o5 ∧ W.heap[w.heap.size + 1 + 1 + 1 + 1 + 1 + 1 + 1]? = some o7 ∧ Below w.heap.size w W ∧ W.heap.size = w.heap.size + 8 := by
  subst hW
  refine ⟨?_, ?_, ?_, ?_, ?_, ?_, ?_, below_al (below_al (below_al (below_al (below_al (below_al (below_al (below_al (Below.refl _ _) _) _) _) _) _) _) _) _, by simp⟩ <;> repeat (first | exact heap_new_at _ _ _ (by simp) | rw [Below.heap_alloc _ _ _ (by simp <;> omega)])

structure St (w W : World) (ab bb kb mb cb go gc tb g cap base rb j i : Nat) (f : Nat → Nat) (m aClk : Int) (es : List Ent) : Prop where
  tab : TabAt W tb 20 3 0 (arbV 8 cb go gc mb kb ab) .nilFunc j
  arb : ArbIn W cb go gc mb kb ab 0 m (f i) aClk
  buk : BukAt W bb 0 (.slice (some ⟨g, 0, none⟩) j cap) (.slice none 0 0)
  own : W.ownsRow base 60 6 (.slice (some ⟨g, 0, none⟩) j cap) j (entCells es)
  es_ : es.map Ent.toRec = mkRecs f j
  ids : ∀ e ∈ es, IdAt W e.blk e.cap e.key
  recs : ∀ t (h : t < (mkRecs f j).length), RecAt W rb (0 + t * 5) (mkRecs f j)[t]
  row : W.ownsRow w.heap.size 31 5 (.slice (some ⟨rb, 0, none⟩) j j) j (recCells (mkRecs f j))
  below : Below w.heap.size w W
  new : w.heap.size ≤ bb ∧ w.heap.size ≤ cb ∧ w.heap.size ≤ go ∧ w.heap.size ≤ gc ∧ w.heap.size ≤ g ∧ w.heap.size ≤ base
  key : f i < 256

theorem St.kp {w W W' : World} {ab bb kb mb cb go gc tb g cap base rb j i : Nat} {f : Nat → Nat} {m aClk : Int} {es : List Ent} (h : St w W ab bb kb mb cb go gc tb g cap base rb j i f m aClk es) (hb : Below W.heap.size W W') :
    St w W' ab bb kb mb cb go gc tb g cap base rb j i f m aClk es := by
  obtain ⟨cs, hcs⟩ := own_heap h.own
  obtain ⟨rs, hrs⟩ := own_heap h.row
  exact ⟨h.tab.of_block (hb.block _ h.tab.lt), h.arb.below hb, h.buk.of_block (hb.block _ h.buk.lt), own_of_block h.own (hb.block _ (lt_of_heap hcs)), h.es_, fun e he => (h.ids e he).of_block (hb.block _ (h.ids e he).lt), fun t ht => (h.recs t ht).of_block (hb.block _ (lt_of_heap hrs)), own_of_block h.row (hb.block _ (lt_of_heap hrs)), h.below.trans (hb.mono h.below.size), h.new, h.key⟩

theorem st8 {w wc wr w4 : World} {aClk m : Int} {f : Nat → Nat} {i j g cap : Nat} {es : List Ent} (hwc : w.heap.size ≤ wc.heap.size) (hab : wr.heap[w.heap.size]? = some (.cells #[.int .u64 aClk] 23 (0, 0))) (hB : Below w.heap.size w wr)
    (hrow : wr.ownsRow wc.heap.size 31 5 (.slice (some ⟨wc.heap.size, 0, none⟩) j j) j (recCells (mkRecs f j)))
    (ho4 : w4.ownsRow (wr.alloc (.cells #[.int .u8 0] 5)).heap.size 60 6 (.slice (some ⟨g, 0, none⟩) j cap) j (entCells es)) (he4 : es.map Ent.toRec = mkRecs f j) (hi4 : ∀ e ∈ es, IdAt w4 e.blk e.cap e.key ∧ (wr.alloc (.cells #[.int .u8 0] 5)).heap.size ≤ e.blk) (hB4 : Below wr.heap.size wr w4) (hfi : f i < 256) (hg : wr.heap.size + 1 ≤ g)
    (o6 : Obj) (v0 b8 : Value) (W : World)
    (hW : W = (((((((w4.alloc (.cells #[.int .i32 0, .int .u32 0, .int .u32 0, .int .u32 0, .int .i32 0, .int .i32 0, .int .u64 0, .int .i64 0, b8, .slice (some ⟨g, 0, none⟩) j cap, .slice none 0 0, .pointer none] 56)).alloc (.cells #[.int .u8 (f i : Nat)] 5)).alloc (.cells #[.int .u8 m] 5)).alloc (.cells #[.int .i64 0] 3)).alloc (.cells #[.slice none 0 0, .int .u64 0, .nilIface] 58)).alloc (.cells #[.slice none 0 0, .int .u64 0, .nilIface] 58)).alloc o6).alloc
      (.cells #[v0, .int .i64 20, .int .i64 3, .int .i64 0, .int .i64 0, .nilFunc, .func (.func 8) #[] #[.pointer (some ⟨w4.heap.size + 1 + 1 + 1, 0, none⟩), .pointer (some ⟨w4.heap.size + 1 + 1 + 1 + 1, 0, none⟩), .pointer (some ⟨w4.heap.size + 1 + 1 + 1 + 1 + 1, 0, none⟩), .pointer (some ⟨w4.heap.size + 1 + 1, 0, none⟩), .pointer (some ⟨w4.heap.size + 1, 0, none⟩), .pointer (some ⟨w.heap.size, 0, none⟩)],
        .nilFunc, .nilFunc, .nilFunc, .nilFunc, .int .u64 0, .int .i64 0, .pointer none, .int .i32 0, .int .u32 0, .int .u32 0, .int .u32 0, .int .i32 0, .int .i32 0, .int .i32 0, .int .u32 0, .int .u32 0, .int .u32 0, .int .i32 0, .int .i32 0, .int .u64 0, .int .i64 0, .slice none 0 0, .slice none 0 0, .slice none 0 0, .pointer none, .int .i64 j] 70)) :
    St w W w.heap.size w4.heap.size (w4.heap.size + 1) (w4.heap.size + 1 + 1) (w4.heap.size + 1 + 1 + 1) (w4.heap.size + 1 + 1 + 1 + 1) (w4.heap.size + 1 + 1 + 1 + 1 + 1) (w4.heap.size + 1 + 1 + 1 + 1 + 1 + 1 + 1) g cap wr.heap.size wc.heap.size j i f m aClk es ∧ W.heap.size = w4.heap.size + 8 := by
  obtain ⟨a0, a1, a2, a3, a4, a5, a7, ab, asz⟩ := alloc8 w4 _ _ _ _ _ _ _ _ W hW
  have s1 := hB.size
  have s2 := hB4.size
  obtain ⟨cs, hcs⟩ := own_heap ho4
  obtain ⟨rs, hrs⟩ := own_heap hrow
  have l1 := lt_of_heap hcs
  have l2 := lt_of_heap hrs
  have hBW : Below wr.heap.size wr W := hB4.trans (ab.mono s2)
  have l3 := lt_of_heap hab
  refine ⟨⟨⟨_, a7, by simp, by simp, by simp, by simp [arbV], by simp, by simp⟩, ⟨a3, ⟨_, _, _, a4⟩, ⟨_, _, _, a5⟩, a2, a1, (hBW.block _ l3).trans hab, by omega⟩, ⟨_, a0, by simp, by simp, by simp⟩, ?_, he4, fun e he => (hi4 e he).1.of_block (ab.block _ (hi4 e he).1.lt), fun t ht => ?_, ?_, hB.trans (hBW.mono s1), by omega, hfi⟩, asz⟩
  · have := own_of_block ho4 (ab.block _ l1)
    exact ⟨this.1, by
      rcases this.2 with h | h
      · exact Or.inl h
      · right
        obtain ⟨g', cap', cur, h1, h2, h3⟩ := h
        exact ⟨g', cap', cur, h1, by simp at h2; omega, h3⟩⟩
  · have := (recAt_own (R := []) (by rw [List.append_nil]; exact hrow) t ht).of_block (hBW.block _ l2)
    rwa [Nat.zero_add]
  · have := own_of_block hrow (hBW.block _ l2)
    exact ⟨this.1, by
      rcases this.2 with h | h
      · exact Or.inl h
      · right
        obtain ⟨g', cap', cur, h1, h2, h3⟩ := h
        exact ⟨g', cap', cur, h1, by omega, h3⟩⟩

end Go.Proofs.YbulkagdqDoor

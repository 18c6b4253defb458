import Derived.Test.YbulkagdqDoorVb
namespace Go.Proofs.YbulkagdqDoor
open Go.RowKit
set_option linter.unusedVariables false

theorem rec_one (r : Rec) : ∀ u ∈ r.cells, u.oneCell' = true := by
  intro u hu
  simp [Rec.cells] at hu
  rcases hu with rfl | rfl | rfl | rfl | rfl <;> rfl

theorem recCells_append (a b : List Rec) : recCells (a ++ b) = recCells a ++ recCells b := by simp [recCells]

theorem rec_split (es : List Rec) (i : Nat) (hi : i < es.length) : recCells es = recCells (es.take i) ++ es[i].cells ++ recCells (es.drop (i + 1)) := by
  conv => lhs; rw [← List.take_append_drop i es, ← List.getElem_cons_drop hi]
  rw [recCells_append, List.append_assoc]
  simp only [recCells, List.flatMap_cons]

theorem rec_heard {w : World} {base g n cap i : Nat} {es : List Rec} (h : w.ownsRow base 31 5 (.slice (some ⟨g, 0, none⟩) n cap) n (recCells es)) (hi : i < es.length) (s' n' : Int) :
    (((w.setCell ⟨g, i * 5 + 2, none⟩ (.int .u64 n')).setCell ⟨g, i * 5 + 2 + 1, none⟩ (.int .i64 s')).setCell ⟨g, i * 5 + 2 + 2, none⟩ (.pointer none)).ownsRow base 31 5 (.slice (some ⟨g, 0, none⟩) n cap) n (recCells (es.set i { es[i] with s := s', n := n' })) := by
  have h3 := (((h.stored (i * 5 + 2) (.int .u64 n')).1.stored (i * 5 + 2 + 1) (.int .i64 s')).1.stored (i * 5 + 2 + 2) (.pointer none)).1
  have e1 : es.set i { es[i] with s := s', n := n' } = es.take i ++ { es[i] with s := s', n := n' } :: es.drop (i + 1) := by
    rw [List.set_eq_take_append_cons_drop, if_pos hi]
  have hl : (recCells (es.take i)).length = i * 5 := by rw [recCells_length]; simp; omega
  rw [e1]
  rw [rec_split es i hi] at h3
  have e2 : recCells (es.take i ++ { es[i] with s := s', n := n' } :: es.drop (i + 1)) = recCells (es.take i) ++ (.int .u8 es[i].key :: .int .u64 es[i].clk :: .int .u64 n' :: .int .i64 s' :: .pointer none :: recCells (es.drop (i + 1))) := by
    rw [recCells_append]
    simp [recCells, Rec.cells]
  have e3 : recCells (es.take i) ++ es[i].cells ++ recCells (es.drop (i + 1)) = recCells (es.take i) ++ (.int .u8 es[i].key :: .int .u64 es[i].clk :: .int .u64 es[i].n :: .int .i64 es[i].s :: .pointer none :: recCells (es.drop (i + 1))) := by
    simp [Rec.cells]
  rw [e3] at h3
  rw [e2]
  generalize recCells (es.drop (i + 1)) = R at *
  generalize recCells (es.take i) = A at *
  rw [← hl] at h3 ⊢
  simp only [Nat.add_assoc, Nat.reduceAdd] at h3 ⊢
  simpa using h3

theorem same_own {X X' : World} {g j cap base g2 c2 base2 : Nat} {es : List Ent} {l : List Rec} (how : X.ownsRow base 60 6 (.slice (some ⟨g, 0, none⟩) j cap) j (entCells es)) (ids : ∀ e ∈ es, IdAt X e.blk e.cap e.key) (hX : Below X.heap.size X X')
    (hrow : X'.ownsRow base2 31 5 (.slice (some ⟨g2, 0, none⟩) j c2) j (recCells l)) (hel : es.map Ent.toRec = l) (hl : l.length = j) (hj : j ≤ 2000) (hok : ∀ r ∈ l, 0 ≤ r.n ∧ r.n < 1000000000) :
    Calls Ybad.prog 13 #[.slice (some ⟨g, 0, none⟩) j cap, .slice (some ⟨g2, 0, none⟩) j c2] X' fun e w' => e = .returned (.bool true) ∧ Below X'.heap.size X' w' := by
  obtain ⟨gs, hgs⟩ := own_heap how
  obtain ⟨rs, hrs⟩ := own_heap hrow
  refine same_any _ _ j cap c2 es l X' hj hl hel hok (fun _ => ⟨g, 0, rfl, Nat.lt_of_lt_of_le (lt_of_heap hgs) hX.size, fun t ht => ⟨?_, ?_⟩⟩) (fun _ => ⟨g2, 0, rfl, lt_of_heap hrs, fun t ht => ?_⟩)
  · have := (entAt_own (R := []) (by rw [List.append_nil]; exact how) t ht).of_block (hX.block g (lt_of_heap hgs))
    rwa [Nat.zero_add]
  · exact (ids _ (List.getElem_mem ht)).of_block (hX.block _ (ids _ (List.getElem_mem ht)).lt)
  · have := recAt_own (R := []) (by rw [List.append_nil]; exact hrow) t ht
    rwa [Nat.zero_add]

theorem step_append_rec {ops : Array Oper} {o : Oper} {a : Act} {w : World} {K : Act → World → Prop} {Q : Exit → Act → World → Prop} {E : Prop}
    (hg : o.guard = none) (s x : Operand) (hop : o.op = Op.call { callee := Callee.builtin Builtin.append, args := #[s, x], argTypes := #[25, 25] })
    {base m blk : Nat} {v : Value} {rs : List Rec} (hs : a.eval s = v) (hx : a.eval x = .slice (some ⟨blk, 0, none⟩) 1 1) (r : Rec) (hb : w.heap[blk]? = some (.cells r.cells.toArray 31 (0, 0)))
    (h : w.ownsRow base 31 5 v m (recCells rs)) (hm : m ≤ 2000) (hbase : base ≤ w.heap.size)
    (hK : ∀ v' w3, w3.ownsRow base 31 5 v' (m + 1) (recCells (rs ++ [r])) → w.grownBy w3 v.ownBlock → K (a.put o.dst v') w3) :
    if Region.wanted o (yielded ops a.tmps) = true then Oper.wp Ybad.prog o a w K Q else E := by
  have hw : Region.wanted o (yielded ops a.tmps) = true := by simp [Region.wanted, hg]
  rw [if_pos hw]
  obtain ⟨i0, hi0, hz0, hz1, hz2⟩ := info_parts Ybad.info31
  refine wp_append_own w s x 25 hop base 31 i0 _ 5 40 Ybad.underlying25 hi0 hz0 hz1 hz2 rfl (by decide) v m (recCells rs) hs h ⟨blk, 0, none⟩ 1 1 r.cells hx rfl (news_okL _ hb) (rec_one r) (by unfold maxLen; omega) (by omega) hbase ?_
  intro v' w' h1 h2 h3
  refine hK v' w' ?_ h2
  rw [recCells_append]
  simpa [recCells] using h1

end Go.Proofs.YbulkagdqDoor

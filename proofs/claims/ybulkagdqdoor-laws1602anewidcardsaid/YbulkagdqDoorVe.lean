import Derived.Test.YbulkagdqDoorVc
namespace Go.Proofs.YbulkagdqDoor
open Go.RowKit
set_option linter.unusedVariables false

theorem Ybad.inf5x : (Ybad.prog.info? 5).map (fun i => i.size) = some 1 := by kernel_rfl

theorem wo_at (l : List Rec) (i j : Nat) (hi : i < j) (hl : l.length = j) : wo l i j = l.take i ++ l.drop (i + 1) := by
  unfold wo
  have e : l.take j = l := List.take_of_length_le (by omega)
  rw [if_neg (by omega), e]
  simp

theorem own_weak {w : World} {base base' : Nat} {e : TypeId} {size n : Nat} {v : Value} {xs : List Value} (h : w.ownsRow base e size v n xs) (hb : base' ≤ base) : w.ownsRow base' e size v n xs := by
  refine ⟨h.1, ?_⟩
  rcases h.2 with h | ⟨q1, q2, q3, q4, q5, q6⟩
  · exact Or.inl h
  · exact Or.inr ⟨q1, q2, q3, q4, by omega, q6⟩

theorem without_at {Z X' : World} {rb j i : Nat} {l : List Rec} (hX : Below Z.heap.size Z X') (hlt : rb < Z.heap.size) (recs : ∀ t (h : t < l.length), RecAt Z rb (0 + t * 5) l[t]) (hl : l.length = j) (hi : i < j) (hj : j ≤ 2000) :
    Calls Ybad.prog 15 #[.slice (some ⟨rb, 0, none⟩) j j, .int .i64 i] X' fun e w' => ∃ v, e = .returned v ∧ w'.ownsRow Z.heap.size 31 5 v (j - 1) (recCells (l.take i ++ l.drop (i + 1))) ∧ Below X'.heap.size X' w' ∧ Below Z.heap.size Z w' := by
  refine (without_any (some ⟨rb, 0, none⟩) j j i l X' hj hl (fun _ => ⟨rb, 0, rfl, Nat.lt_of_lt_of_le hlt hX.size, fun t ht => (recs t ht).of_block (hX.block _ hlt)⟩)).mono ?_
  rintro e w' ⟨v, rfl, h1, h2⟩
  rw [wo_at l i j hi hl] at h1
  have e1 : (l.take i ++ l.drop (i + 1)).length = j - 1 := by simp; omega
  rw [e1] at h1
  exact ⟨v, rfl, own_weak h1 hX.size, h2, hX.trans (h2.mono hX.size)⟩

theorem app_end {Z wx w3 : World} {v v' : Value} {m j : Nat} {xs : List Value} {rs : List Rec} (hb : Below Z.heap.size Z wx) (hown : wx.ownsRow Z.heap.size 31 5 v m xs) (ho3 : w3.ownsRow Z.heap.size 31 5 v' (m + 1) (recCells rs)) (hg3 : wx.grownBy w3 v.ownBlock) (hm : m + 1 = j) :
    ∃ g2 c2, v' = .slice (some ⟨g2, 0, none⟩) j c2 ∧ w3.ownsRow Z.heap.size 31 5 (.slice (some ⟨g2, 0, none⟩) j c2) j (recCells rs) ∧ Below Z.heap.size Z w3 := by
  rw [hm] at ho3
  obtain ⟨va, vc, rfl⟩ := ownsRow_shape ho3
  obtain ⟨g2, c2, cu, h3, h4, h5, h6, h7⟩ := own_form ho3 (by intro h; injection h; omega)
  injection h3 with h3 _ h8
  subst h3 h8
  exact ⟨g2, _, rfl, ho3, hb.grown hg3 hb.size (fun k hk => (hown.lt k hk).1)⟩

/-- The entries behind a settlement: the settled one last. -/
def esA (es : List Ent) (i : Nat) (r : Ent) : List Ent := es.take i ++ es.drop (i + 1) ++ [r]

theorem esA_ids {X : World} {es : List Ent} {i : Nat} {r : Ent} (ids : ∀ e ∈ es, IdAt X e.blk e.cap e.key) (hr : IdAt X r.blk r.cap r.key) : ∀ e ∈ esA es i r, IdAt X e.blk e.cap e.key := by
  intro e he
  unfold esA at he
  rcases List.mem_append.1 he with h | h
  · rcases List.mem_append.1 h with h | h
    · exact ids e (List.mem_of_mem_take h)
    · exact ids e (List.mem_of_mem_drop h)
  · obtain rfl := List.mem_singleton.1 h
    exact hr

theorem esA_map {es : List Ent} {i : Nat} {r : Ent} {l : List Rec} (hes : es.map Ent.toRec = l) : (esA es i r).map Ent.toRec = l.take i ++ l.drop (i + 1) ++ [r.toRec] := by
  subst hes
  simp [esA, List.map_take, List.map_drop]

theorem esA_len {es : List Ent} {i j : Nat} {r : Ent} (hl : es.length = j) (hi : i < j) : (esA es i r).length = j := by
  simp [esA]; omega

theorem esA_last {es : List Ent} {i j : Nat} {r : Ent} (hl : es.length = j + 1) (hi : i < j + 1) : (esA es i r)[j]'(by rw [esA_len hl hi]; omega) = r := by
  unfold esA
  rw [List.getElem_append_right (by simp; omega)]
  simp

theorem same1 {X X' : World} {g j cap base g2 c2 base2 i : Nat} {es : List Ent} {r : Ent} {f : Nat → Nat} (how : X.ownsRow base 60 6 (.slice (some ⟨g, 0, none⟩) j cap) j (entCells (esA es i r))) (ids : ∀ e ∈ es, IdAt X e.blk e.cap e.key) (hr : IdAt X r.blk r.cap r.key) (hX : Below X.heap.size X X')
    (hrow : X'.ownsRow base2 31 5 (.slice (some ⟨g2, 0, none⟩) j c2) j (recCells ((mkRecs f j).take i ++ (mkRecs f j).drop (i + 1) ++ [r.toRec]))) (hel : es.map Ent.toRec = mkRecs f j) (hi : i < j) (hj : j ≤ 2000) (hn : 0 ≤ r.n ∧ r.n < 1000000000) :
    Calls Ybad.prog 13 #[.slice (some ⟨g, 0, none⟩) j cap, .slice (some ⟨g2, 0, none⟩) j c2] X' fun e w' => e = .returned (.bool true) ∧ Below X'.heap.size X' w' := by
  refine same_own how (esA_ids ids hr) hX hrow (esA_map hel) (by simp [mkRecs_length]; omega) hj ?_
  intro q hq
  have key : ∀ q ∈ mkRecs f j, 0 ≤ q.n ∧ q.n < 1000000000 := fun q h => by
    obtain ⟨t, ht, rfl⟩ := List.getElem_of_mem h
    rw [mkRecs_length] at ht
    rw [mkRecs_get]; simp only []; omega
  rcases List.mem_append.1 hq with h | h
  · rcases List.mem_append.1 h with h | h
    · exact key q (List.mem_of_mem_take h)
    · exact key q (List.mem_of_mem_drop h)
  · obtain rfl := List.mem_singleton.1 h
    exact hn

end Go.Proofs.YbulkagdqDoor

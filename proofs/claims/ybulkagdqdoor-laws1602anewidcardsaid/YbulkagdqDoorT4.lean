import Derived.Test.YbulkagdqDoorT3
namespace Go.Proofs.YbulkagdqDoor
open Go.RowKit

def Ent.toRec (e : Ent) : Rec := ⟨e.key, e.clk, e.s, e.n⟩

theorem own_at {w : World} {base g n cap : Nat} {e : TypeId} {size m : Nat} {A R : List Value} {r : Value} (h : w.ownsRow base e size (.slice (some ⟨g, 0, none⟩) n cap) n (A ++ r :: R)) (hm : A.length = m) : w.cell? ⟨g, m, none⟩ = some r := by
  have hl := h.1
  simp at hl
  rw [h.cellAt m (by omega)]
  subst hm
  simp
theorem own_at6 {w : World} {base g n cap : Nat} {e : TypeId} {size m : Nat} {A R : List Value} {r0 r1 r2 r3 r4 r5 : Value} (h : w.ownsRow base e size (.slice (some ⟨g, 0, none⟩) n cap) n (A ++ r0 :: r1 :: r2 :: r3 :: r4 :: r5 :: R)) (hm : A.length = m) :
    w.cell? ⟨g, m, none⟩ = some r0 ∧ w.cell? ⟨g, m + 1, none⟩ = some r1 ∧ w.cell? ⟨g, m + 2, none⟩ = some r2 ∧ w.cell? ⟨g, m + 3, none⟩ = some r3 ∧ w.cell? ⟨g, m + 4, none⟩ = some r4 ∧ w.cell? ⟨g, m + 5, none⟩ = some r5 := by
  have hl := h.1
  simp at hl
  subst hm
  refine ⟨?_, ?_, ?_, ?_, ?_, ?_⟩ <;> (rw [h.cellAt _ (by omega)]; simp)

theorem own_store6 {w : World} {base g n cap : Nat} {e : TypeId} {size m : Nat} {A R : List Value} {r0 r1 r2 r3 r4 r5 : Value} (h : w.ownsRow base e size (.slice (some ⟨g, 0, none⟩) n cap) n (A ++ r0 :: r1 :: r2 :: r3 :: r4 :: r5 :: R)) (hm : A.length = m) (c0 c1 c2 c3 c4 c5 : Value) :
    ((((((w.setCell ⟨g, m, none⟩ c0).setCell ⟨g, m + 1, none⟩ c1).setCell ⟨g, m + 2, none⟩ c2).setCell ⟨g, m + 3, none⟩ c3).setCell ⟨g, m + 4, none⟩ c4).setCell ⟨g, m + 5, none⟩ c5).ownsRow base e size (.slice (some ⟨g, 0, none⟩) n cap) n (A ++ c0 :: c1 :: c2 :: c3 :: c4 :: c5 :: R) ∧
    Kp [g] w ((((((w.setCell ⟨g, m, none⟩ c0).setCell ⟨g, m + 1, none⟩ c1).setCell ⟨g, m + 2, none⟩ c2).setCell ⟨g, m + 3, none⟩ c3).setCell ⟨g, m + 4, none⟩ c4).setCell ⟨g, m + 5, none⟩ c5) := by
  have h6 := (((((((h.stored m c0).1.stored (m + 1) c1).1.stored (m + 2) c2).1.stored (m + 3) c3).1.stored (m + 4) c4).1.stored (m + 5) c5)).1
  rw [set6 A R r0 r1 r2 r3 r4 r5 c0 c1 c2 c3 c4 c5 m hm] at h6
  exact ⟨h6, ((((((Kp.refl [g] w).setCell (by simp) _).setCell (by simp) _).setCell (by simp) _).setCell (by simp) _).setCell (by simp) _).setCell (by simp) _⟩

/-- The row's block lies in memory, of element type e. -/
theorem own_heap {w : World} {base g n cap : Nat} {e : TypeId} {size : Nat} {xs : List Value} (h : w.ownsRow base e size (.slice (some ⟨g, 0, none⟩) n cap) n xs) : ∃ cs, w.heap[g]? = some (.cells cs e (0, 0)) := by
  rcases h.2 with ⟨h', _⟩ | ⟨g', cap', cur, h', _, hg, _⟩
  · simp at h'
  · simp only [Value.slice.injEq, Option.some.injEq, Addr.mk.injEq, and_true, true_and] at h'
    obtain ⟨rfl, rfl⟩ := h'
    exact ⟨cur, hg⟩
theorem lt_of_heap {w : World} {g : Nat} {o : Obj} (h : w.heap[g]? = some o) : g < w.heap.size := (Array.getElem?_eq_some_iff.1 h).1
theorem IdAt.ne {w : World} {b c key g : Nat} {cs : Array Value} {e : TypeId} {m : Nat × Nat} (h : IdAt w b c key) (hg : w.heap[g]? = some (.cells cs e m)) (he : e ≠ 5) : b ≠ g := by
  obtain ⟨cs', h1, _⟩ := h.at_
  intro e'
  subst e'
  rw [h1] at hg
  simp at hg
  exact he hg.2.1.symm
theorem IdAt.lt {w : World} {b c key : Nat} (h : IdAt w b c key) : b < w.heap.size := by
  obtain ⟨cs', h1, _⟩ := h.at_
  exact lt_of_heap h1
theorem IdAt.kp {D : List Nat} {w w' : World} {b c key : Nat} (h : IdAt w b c key) (k : Kp D w w') (hn : b ∉ D) : IdAt w' b c key := h.of_block (k.block b h.lt hn)
theorem heap_alloc_new' (w : World) (o : Obj) : (w.alloc o).heap[w.heap.size]? = some o := heap_alloc_new w o
theorem entCells_snoc (l : List Ent) (e : Ent) (R : List Value) : entCells (l ++ [e]) ++ R = entCells l ++ (.slice (some ⟨e.blk, 0, none⟩) 1 e.cap :: .int .u64 e.clk :: .nilIface :: .int .u64 e.n :: .int .i64 e.s :: .pointer none :: R) := by
  simp [entCells, Ent.cells]

theorem entries_step {w wr : World} {n k : Nat} {l : List Rec} {es : List Ent} {r : Rec} {r0 r1 r2 r3 r4 r5 : Value} {R : List Value} (hk : k < l.length) (hre : l[k] = r) (helen : es.length = k)
    (hes : es.map Ent.toRec = l.take k) (how : wr.ownsRow w.heap.size 60 6 (.slice (some ⟨w.heap.size, 0, none⟩) n n) n (entCells es ++ r0 :: r1 :: r2 :: r3 :: r4 :: r5 :: R))
    (hid : ∀ e ∈ es, IdAt wr e.blk e.cap e.key ∧ w.heap.size ≤ e.blk) (hbl : Below w.heap.size w wr) (hsz : w.heap.size < wr.heap.size) (w' : World)
    (hw : w' = ((((((((wr.setCell ⟨w.heap.size, k * 6, none⟩ (.slice (some ⟨wr.heap.size + 1, 0, none⟩) 1 1)).setCell ⟨w.heap.size, k * 6 + 1, none⟩ (.int .u64 r.clk)).setCell ⟨w.heap.size, k * 6 + 2, none⟩ .nilIface).setCell ⟨w.heap.size, k * 6 + 3, none⟩ (.int .u64 r.n)).setCell ⟨w.heap.size, k * 6 + 4, none⟩ (.int .i64 r.s)).setCell ⟨w.heap.size, k * 6 + 5, none⟩ (.pointer none)).alloc (.cells #[.int .u8 r.key, .int .u64 r.clk, .int .u64 r.n, .int .i64 r.s, .pointer none] 31)).alloc (.cells #[.int .u8 r.key] 5))) :
    ∃ es' : List Ent, es'.map Ent.toRec = l.take (k + 1) ∧ w'.ownsRow w.heap.size 60 6 (.slice (some ⟨w.heap.size, 0, none⟩) n n) n (entCells es' ++ R) ∧ (∀ e ∈ es', IdAt w' e.blk e.cap e.key ∧ w.heap.size ≤ e.blk) ∧ Below w.heap.size w w' ∧ w.heap.size < w'.heap.size := by
  obtain ⟨ho, hk1⟩ := own_store6 how (m := k * 6) (by rw [entCells_length, helen]) (.slice (some ⟨wr.heap.size + 1, 0, none⟩) 1 1) (.int .u64 r.clk) .nilIface (.int .u64 r.n) (.int .i64 r.s) (.pointer none)
  generalize hx : ((((((wr.setCell ⟨w.heap.size, k * 6, none⟩ (.slice (some ⟨wr.heap.size + 1, 0, none⟩) 1 1)).setCell ⟨w.heap.size, k * 6 + 1, none⟩ (.int .u64 r.clk)).setCell ⟨w.heap.size, k * 6 + 2, none⟩ .nilIface).setCell ⟨w.heap.size, k * 6 + 3, none⟩ (.int .u64 r.n)).setCell ⟨w.heap.size, k * 6 + 4, none⟩ (.int .i64 r.s)).setCell ⟨w.heap.size, k * 6 + 5, none⟩ (.pointer none)) = wx at ho hk1 hw
  have hwx : wx.heap.size = wr.heap.size := by rw [← hx]; simp [World.setCell]
  have hkw : Kp [w.heap.size] wr w' := by rw [hw]; exact (hk1.alloc _).alloc _
  obtain ⟨cs, hcs⟩ := own_heap how
  refine ⟨es ++ [⟨wr.heap.size + 1, 1, r.key, r.clk, r.s, r.n⟩], ?_, ?_, ?_, hbl.trans ((hkw.below (Nat.le_of_lt hsz) (by simp))), Nat.lt_of_lt_of_le hsz hkw.size⟩
  · rw [List.map_append, hes, List.take_succ_eq_append_getElem hk, hre]
    rfl
  · rw [entCells_snoc, hw]
    exact (ho.alloc _).alloc _
  · intro e he
    rcases List.mem_append.1 he with h | h
    · exact ⟨(hid e h).1.kp hkw (by simpa using (hid e h).1.ne hcs (by decide)), (hid e h).2⟩
    · obtain rfl := List.mem_singleton.1 h
      refine ⟨⟨⟨#[.int .u8 r.key], ?_, rfl⟩, Nat.le_refl _⟩, by simp only []; omega⟩
      rw [hw]
      have := heap_alloc_new' (wx.alloc (.cells #[.int .u8 r.key, .int .u64 r.clk, .int .u64 r.n, .int .i64 r.s, .pointer none] 31)) (.cells #[.int .u8 r.key] 5)
      simpa [hwx] using this

set_option maxRecDepth 100000 in
set_option maxHeartbeats 400000 in
theorem entries_any (b off n c : Nat) (l : List Rec) (w : World) (hn : 0 < n) (hn2 : n ≤ 1024) (hl : l.length = n) (hb0 : b < w.heap.size) (hr : ∀ j (h : j < l.length), RecAt w b (off + j * 5) l[j])
   :
    Calls Ybad.prog 7 #[.slice (some ⟨b, off, none⟩) n c] w fun e w' => ∃ (v : Value) (es : List Ent), e = .returned v ∧ w'.ownsRow w.heap.size 60 6 v n (entCells es) ∧ es.map Ent.toRec = l ∧ (∀ e ∈ es, IdAt w' e.blk e.cap e.key ∧ w.heap.size ≤ e.blk) ∧ Below w.heap.size w w' := by
  obtain ⟨i0, hi, hz0, hz1, hz2⟩ := info_parts Ybad.info60
  have hn0 : ((n : Int) == 0) = false := by simp; omega
  go_enter Ybad.func7, Ybad.ntmps7
  go_wp2_with (at_make; refine wpList_make_full _ rfl _ _ 33 rfl w.heap.size 60 i0 _ 6 Ybad.underlying33 hi hz0 hz1 .i64 .i64 n n n rfl rfl rfl rfl (by rw [hz2]; omega) (by unfold maxLen; omega) (Nat.le_refl _) ?_)
  intro w1 hown hg
  go_wp2
  go_loopw [14] (fun i wr => ∃ (k : Nat) (es : List Ent) (R : List Value), k ≤ n ∧ i = .int .i64 k ∧ es.map Ent.toRec = l.take k ∧ wr.ownsRow w.heap.size 60 6 (.slice (some ⟨w.heap.size, 0, none⟩) n n) n (entCells es ++ R) ∧ (∀ e ∈ es, IdAt wr e.blk e.cap e.key ∧ w.heap.size ≤ e.blk) ∧ Below w.heap.size w wr ∧ w.heap.size < wr.heap.size) (fun i _ => n - (intOf i).toNat)
  case atStart => exact ⟨0, [], _, Nat.zero_le _, rfl, rfl, hown, fun _ h => (by cases h), (Below.refl _ _).grown hg (Nat.le_refl _) (fun _ h => by cases h), by rcases own_heap hown with ⟨cs, h⟩; exact lt_of_heap h⟩
  case round =>
    obtain ⟨k, es, R, hk, rfl, hes, how, hid, hbl, hsz⟩ := hrel
    by_cases hlt : k < n
    · have hra := (hr k (by omega)).of_block (hbl.block b hb0)
      obtain ⟨r, hre⟩ : ∃ r, l[k] = r := ⟨_, rfl⟩
      rw [hre] at hra
      obtain ⟨q0, q1, q2, q3, q4⟩ := hra
      have helen : es.length = k := by have := congrArg List.length hes; simp at this; omega
      have hxl := how.1
      rw [List.length_append, entCells_length, helen] at hxl
      obtain ⟨r0, r1, r2, r3, r4, r5, R', rfl⟩ : ∃ r0 r1 r2 r3 r4 r5 R', R = r0 :: r1 :: r2 :: r3 :: r4 :: r5 :: R' := by
        match R, hxl with
        | r0 :: r1 :: r2 :: r3 :: r4 :: r5 :: R', _ => exact ⟨r0, r1, r2, r3, r4, r5, R', rfl⟩
        | [], h => simp at h; omega
        | [_], h => simp at h; omega
        | [_, _], h => simp at h; omega
        | [_, _, _], h => simp at h; omega
        | [_, _, _, _], h => simp at h; omega
        | [_, _, _, _, _], h => simp at h; omega
      have fz : ∀ t, wr.frozen? ⟨w.heap.size, t, none⟩ = false := fun t => how.frozenAt t
      obtain ⟨z0, z1, z2, z3, z4, z5⟩ := own_at6 how (m := k * 6) (by rw [entCells_length, helen])
      have R0 := fun w' => entries_step (w := w) (wr := wr) (n := n) (by omega) hre helen hes how hid hbl hsz w'
      have HR := hide R0
      clear R0 how hid hes
      go_wp2
      go_roundw
      case rel =>
        obtain ⟨es', e1, e2, e3, e4, e5⟩ := unhide HR _ rfl
        exact ⟨k + 1, es', R', by omega, by go_num, e1, e2, e3, e4, e5⟩
      case measure => simp [intOf]; omega
    · go_wp2
      go_ret
      obtain rfl : k = n := by omega
      have helen : es.length = k := by have := congrArg List.length hes; simp at this; omega
      have hxl := how.1
      rw [List.length_append, entCells_length, helen] at hxl
      obtain rfl : R = [] := List.eq_nil_of_length_eq_zero (by omega)
      rw [List.append_nil] at how
      exact ⟨_, es, rfl, how, by rw [hes, List.take_of_length_le (by omega)], hid, hbl⟩

end Go.Proofs.YbulkagdqDoor

import Derived.Test.YbulkagdqDoorNc
import Derived.OwnWalk
namespace Go.Proofs.YbulkagdqDoor
open Go.RowKit
set_option linter.unusedVariables false
set_option maxRecDepth 100000

def Ent.con (e : Ent) : List Value := [.slice (some ⟨e.blk, 0, none⟩) 1 e.cap, .int .u64 e.clk, .nilIface]
def conCells (l : List Ent) : List Value := l.flatMap Ent.con
theorem conCells_length (l : List Ent) : (conCells l).length = l.length * 3 := by
  induction l with
  | nil => rfl
  | cons x r ih => simp only [conCells, List.flatMap_cons, List.length_append, List.length_cons] at ih ⊢; rw [ih]; simp [Ent.con]; omega
theorem conCells_get (l : List Ent) (j t : Nat) (h : j < l.length) (ht : t < 3) : (conCells l)[j * 3 + t]? = (l[j].con)[t]? := by
  induction l generalizing j with
  | nil => simp at h
  | cons x r ih =>
    cases j with
    | zero =>
      simp only [conCells, List.flatMap_cons, Nat.zero_mul, Nat.zero_add, List.getElem_cons_zero]
      rw [List.getElem?_append_left (by simpa [Ent.con] using ht)]
    | succ j =>
      have := ih j (by simpa using h)
      simp only [conCells, List.flatMap_cons, List.getElem_cons_succ] at this ⊢
      rw [List.getElem?_append_right (by simp [Ent.con]; omega), ← this]
      congr 1
      simp [Ent.con]; omega
theorem set3 (A R : List Value) (r0 r1 r2 c0 c1 c2 : Value) (m : Nat) (h : A.length = m) : ((((A ++ r0 :: r1 :: r2 :: R).set m c0).set (m + 1) c1).set (m + 2) c2) = A ++ c0 :: c1 :: c2 :: R := by
  subst h
  simp
theorem own_at3 {w : World} {base g n cap : Nat} {e : TypeId} {size m : Nat} {A R : List Value} {r0 r1 r2 : Value} (h : w.ownsRow base e size (.slice (some ⟨g, 0, none⟩) n cap) n (A ++ r0 :: r1 :: r2 :: R)) (hm : A.length = m) :
    w.cell? ⟨g, m, none⟩ = some r0 ∧ w.cell? ⟨g, m + 1, none⟩ = some r1 ∧ w.cell? ⟨g, m + 2, none⟩ = some r2 := by
  have hl := h.1
  simp at hl
  subst hm
  refine ⟨?_, ?_, ?_⟩ <;> (rw [h.cellAt _ (by omega)]; simp)
theorem own_store3 {w : World} {base g n cap : Nat} {e : TypeId} {size m : Nat} {A R : List Value} {r0 r1 r2 : Value} (h : w.ownsRow base e size (.slice (some ⟨g, 0, none⟩) n cap) n (A ++ r0 :: r1 :: r2 :: R)) (hm : A.length = m) (c0 c1 c2 : Value) :
    (((w.setCell ⟨g, m, none⟩ c0).setCell ⟨g, m + 1, none⟩ c1).setCell ⟨g, m + 2, none⟩ c2).ownsRow base e size (.slice (some ⟨g, 0, none⟩) n cap) n (A ++ c0 :: c1 :: c2 :: R) ∧ Kp [g] w (((w.setCell ⟨g, m, none⟩ c0).setCell ⟨g, m + 1, none⟩ c1).setCell ⟨g, m + 2, none⟩ c2) := by
  have h6 := ((((h.stored m c0).1.stored (m + 1) c1).1.stored (m + 2) c2)).1
  rw [set3 A R r0 r1 r2 c0 c1 c2 m hm] at h6
  exact ⟨h6, (((Kp.refl [g] w).setCell (by simp) _).setCell (by simp) _).setCell (by simp) _⟩
theorem conCells_snoc (l : List Ent) (e : Ent) (R : List Value) : conCells (l ++ [e]) ++ R = conCells l ++ (.slice (some ⟨e.blk, 0, none⟩) 1 e.cap :: .int .u64 e.clk :: .nilIface :: R) := by
  simp [conCells, Ent.con]
theorem Ybad.info58 : (Ybad.prog.info? 58).map (fun i => (i.zero, i.size, i.bytes)) = some (some (.agg #[.slice none 0 0, .int .u64 0, .nilIface]), 3, 48) := by kernel_rfl

theorem con_step {w wr : World} {n k : Nat} {es : List Ent} {e : Ent} {r0 r1 r2 : Value} {R : List Value} (hk : k < es.length) (hre : es[k] = e)
    (how : wr.ownsRow w.heap.size 58 3 (.slice (some ⟨w.heap.size, 0, none⟩) n n) n (conCells (es.take k) ++ r0 :: r1 :: r2 :: R)) (hbl : Below w.heap.size w wr) (hsz : w.heap.size < wr.heap.size) (o : Obj) (w' : World)
    (hw : w' = (((wr.setCell ⟨w.heap.size, k * 3, none⟩ (.slice (some ⟨e.blk, 0, none⟩) 1 e.cap)).setCell ⟨w.heap.size, k * 3 + 1, none⟩ (.int .u64 e.clk)).setCell ⟨w.heap.size, k * 3 + 2, none⟩ .nilIface).alloc o) :
    w'.ownsRow w.heap.size 58 3 (.slice (some ⟨w.heap.size, 0, none⟩) n n) n (conCells (es.take (k + 1)) ++ R) ∧ Below w.heap.size w w' ∧ w.heap.size < w'.heap.size := by
  obtain ⟨ho, hk1⟩ := own_store3 how (m := k * 3) (by rw [conCells_length]; simp; omega) (.slice (some ⟨e.blk, 0, none⟩) 1 e.cap) (.int .u64 e.clk) .nilIface
  have hkw : Kp [w.heap.size] wr w' := by rw [hw]; exact hk1.alloc _
  refine ⟨?_, hbl.trans ((hkw.below (Nat.le_of_lt hsz) (by simp))), Nat.lt_of_lt_of_le hsz hkw.size⟩
  rw [List.take_succ_eq_append_getElem hk, hre, conCells_snoc, hw]
  exact ho.alloc _

set_option maxHeartbeats 400000 in
theorem contacts36 (a : Option Addr) (n c : Nat) (es : List Ent) (w : World) (hn2 : n ≤ 1024) (hl : es.length = n) (he : EntsAt w a es) :
    Calls Ybad.prog 36 #[.slice a n c] w fun e w' => e = .returned (.slice (some ⟨w.heap.size, 0, none⟩) n n) ∧ w'.ownsRow w.heap.size 58 3 (.slice (some ⟨w.heap.size, 0, none⟩) n n) n (conCells es) ∧ Below w.heap.size w w' := by
  obtain ⟨i0, hi, hz0, hz1, hz2⟩ := info_parts Ybad.info58
  go_enter Ybad.func36, Ybad.ntmps36
  go_wp2_with (at_make; refine wpList_make_full _ rfl _ _ 73 rfl w.heap.size 58 i0 _ 3 Ybad.underlying73 hi hz0 hz1 .i64 .i64 n n n rfl rfl rfl rfl (by rw [hz2]; omega) (by unfold maxLen; omega) (Nat.le_refl _) ?_)
  intro w1 hown hg
  go_wp2
  go_loopw [11] (fun i wr => ∃ (k : Nat) (R : List Value), k ≤ n ∧ i = .int .i64 k ∧ wr.ownsRow w.heap.size 58 3 (.slice (some ⟨w.heap.size, 0, none⟩) n n) n (conCells (es.take k) ++ R) ∧ Below w.heap.size w wr ∧ w.heap.size < wr.heap.size) (fun i _ => n - (intOf i).toNat)
  case atStart => exact ⟨0, _, Nat.zero_le _, rfl, by simpa [conCells] using hown, (Below.refl _ _).grown hg (Nat.le_refl _) (fun _ h => by cases h), by rcases own_heap hown with ⟨cs, h⟩; exact lt_of_heap h⟩
  case round =>
    obtain ⟨k, R, hk, rfl, how, hbl, hsz⟩ := hrel
    by_cases hlt : k < n
    · obtain ⟨b, off, rfl, hb0, hec⟩ := he (by omega)
      have hra := (hec k (by omega)).1.of_block (hbl.block b hb0)
      obtain ⟨e, hre⟩ : ∃ r, es[k] = r := ⟨_, rfl⟩
      rw [hre] at hra
      obtain ⟨q0, q1, q2, q3, q4, q5⟩ := hra
      have hxl := how.1
      rw [List.length_append, conCells_length, List.length_take, hl, Nat.min_eq_left (by omega)] at hxl
      obtain ⟨r0, r1, r2, R', rfl⟩ : ∃ r0 r1 r2 R', R = r0 :: r1 :: r2 :: R' := by
        match R, hxl with
        | r0 :: r1 :: r2 :: R', _ => exact ⟨r0, r1, r2, R', rfl⟩
        | [], h => simp at h; omega
        | [_], h => simp at h; omega
        | [_, _], h => simp at h; omega
      have fz : ∀ t, wr.frozen? ⟨w.heap.size, t, none⟩ = false := fun t => how.frozenAt t
      obtain ⟨z0, z1, z2⟩ := own_at3 how (m := k * 3) (by rw [conCells_length]; simp; omega)
      have R0 := fun o w' => con_step (w := w) (wr := wr) (n := n) (by omega) hre how hbl hsz o w'
      have HR := hide R0
      have hlt' : (k : Int) < (n : Int) := by omega
      clear R0 how he hec
      go_wp2
      go_roundw
      case rel =>
        obtain ⟨e2, e4, e5⟩ := unhide HR _ _ rfl
        exact ⟨k + 1, R', by omega, by go_num, e2, e4, e5⟩
      case measure => simp [intOf]; omega
    · go_wp2
      go_ret
      obtain rfl : k = n := by omega
      have hxl := how.1
      rw [List.length_append, conCells_length, List.length_take, hl, Nat.min_self] at hxl
      obtain rfl : R = [] := List.eq_nil_of_length_eq_zero (by omega)
      rw [List.append_nil, List.take_of_length_le (by omega)] at how
      exact ⟨rfl, how, hbl⟩

end Go.Proofs.YbulkagdqDoor

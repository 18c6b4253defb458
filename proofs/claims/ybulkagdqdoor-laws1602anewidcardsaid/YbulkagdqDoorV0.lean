import Derived.Test.YbulkagdqDoorU5
namespace Go.Proofs.YbulkagdqDoor
open Go.RowKit
set_option linter.unusedVariables false

/-- The ids that the law takes, one at the least. -/
structure IdsAt (w : World) (gi k : Nat) (l : List Nat) : Prop where
  lt : gi < w.heap.size
  len : l.length = k
  at_ : ∀ j (h : j < l.length), w.cell? ⟨gi, j, none⟩ = some (.int .u8 (l[j] : Nat))
  bd : ∀ j (h : j < l.length), l[j] < 256
  k0 : 0 < k
  k1 : k ≤ 256

theorem ids_one (w : World) : IdsAt (w.alloc (.cells #[.int .u8 0] 5)) w.heap.size 1 [0] :=
  ⟨by simp, rfl, fun j h => by
    obtain rfl : j = 0 := by simpa using h
    rw [World.cell?_alloc_new]; rfl, fun j h => by
    obtain rfl : j = 0 := by simpa using h
    exact Nat.zero_lt_succ _, by decide, by decide⟩

theorem ids_own {w : World} {base : Nat} {va : Option Addr} {vc : Nat} {l : List Int} (how : w.ownsRow base 5 1 (.slice va l.length vc) l.length (l.map (Value.int .u8))) (hbd : ∀ z ∈ l, 0 ≤ z ∧ z ≤ 255) (h0 : l.length ≠ 0) (h1 : l.length ≤ 256) :
    ∃ gi, va = some ⟨gi, 0, none⟩ ∧ base ≤ gi ∧ IdsAt w gi l.length (l.map Int.toNat) := by
  obtain ⟨g, cap, cur, h2, h3, h4, h5, h6⟩ := own_form how (by intro h; injection h; omega)
  injection h2 with h2 _ h7
  refine ⟨g, h2, h3, lt_of_heap h4, by simp, fun j h => ?_, fun j h => ?_, by omega, h1⟩
  · simp only [List.length_map] at h
    rw [cell_of_heap h4]
    have e1 : (cur.toList.take (l.length * 1))[j]? = (l.map (Value.int .u8))[j]? := by rw [h6]
    rw [List.getElem?_take_of_lt (by omega), Array.getElem?_toList] at e1
    rw [e1]
    simp only [List.getElem?_map, List.getElem?_eq_getElem h, Option.map_some, List.getElem_map]
    have := (hbd l[j] (List.getElem_mem h)).1
    rw [Int.toNat_of_nonneg this]
  · simp only [List.length_map] at h
    simp only [List.getElem_map]
    have := hbd l[j] (List.getElem_mem h)
    omega

/-- The law's records: id j, clock j, heard at j. -/
def mkRecs (f : Nat → Nat) (j : Nat) : List Rec := (List.range j).map fun t => ⟨f t, t, 0, t⟩
theorem mkRecs_length (f : Nat → Nat) (j : Nat) : (mkRecs f j).length = j := by simp [mkRecs]
theorem mkRecs_get (f : Nat → Nat) (j t : Nat) (h : t < (mkRecs f j).length) : (mkRecs f j)[t] = ⟨f t, t, 0, t⟩ := by simp [mkRecs]
theorem mkRecs_snoc (f : Nat → Nat) (j : Nat) : mkRecs f (j + 1) = mkRecs f j ++ [⟨f j, j, 0, j⟩] := by simp [mkRecs, List.range_succ]

theorem own_at5 {w : World} {base g n cap : Nat} {e : TypeId} {size m : Nat} {A R : List Value} {r0 r1 r2 r3 r4 : Value} (h : w.ownsRow base e size (.slice (some ⟨g, 0, none⟩) n cap) n (A ++ r0 :: r1 :: r2 :: r3 :: r4 :: R)) (hm : A.length = m) :
    w.cell? ⟨g, m, none⟩ = some r0 ∧ w.cell? ⟨g, m + 1, none⟩ = some r1 ∧ w.cell? ⟨g, m + 2, none⟩ = some r2 ∧ w.cell? ⟨g, m + 3, none⟩ = some r3 ∧ w.cell? ⟨g, m + 4, none⟩ = some r4 := by
  subst hm
  refine ⟨own_at h rfl, own_at (base := base) (n := n) (cap := cap) (e := e) (size := size) (A := A ++ [r0]) (R := r2 :: r3 :: r4 :: R) ?_ (by simp), own_at (base := base) (n := n) (cap := cap) (e := e) (size := size) (A := A ++ [r0, r1]) (R := r3 :: r4 :: R) ?_ (by simp), own_at (base := base) (n := n) (cap := cap) (e := e) (size := size) (A := A ++ [r0, r1, r2]) (R := r4 :: R) ?_ (by simp), own_at (base := base) (n := n) (cap := cap) (e := e) (size := size) (A := A ++ [r0, r1, r2, r3]) (R := R) ?_ (by simp)⟩ <;> simpa using h

theorem recs_step {f : Nat → Nat} {w wr w1 : World} {k j : Nat} {r0 r1 r2 r3 r4 : Value} {R : List Value}
    (how : wr.ownsRow w.heap.size 31 5 (.slice (some ⟨w.heap.size, 0, none⟩) k k) k (recCells (mkRecs f j) ++ r0 :: r1 :: r2 :: r3 :: r4 :: R)) (hbl : Below w.heap.size w wr) (hsz : w.heap.size < wr.heap.size) (hb1 : Below wr.heap.size wr w1) :
    (((((w1.setCell ⟨w.heap.size, j * 5, none⟩ (.int .u8 (f j : Nat))).setCell ⟨w.heap.size, j * 5 + 1, none⟩ (.int .u64 j)).setCell ⟨w.heap.size, j * 5 + 2, none⟩ (.int .u64 j)).setCell ⟨w.heap.size, j * 5 + 3, none⟩ (.int .i64 0)).setCell ⟨w.heap.size, j * 5 + 4, none⟩ (.pointer none)).ownsRow w.heap.size 31 5 (.slice (some ⟨w.heap.size, 0, none⟩) k k) k (recCells (mkRecs f (j + 1)) ++ R)
    ∧ Below w.heap.size w (((((w1.setCell ⟨w.heap.size, j * 5, none⟩ (.int .u8 (f j : Nat))).setCell ⟨w.heap.size, j * 5 + 1, none⟩ (.int .u64 j)).setCell ⟨w.heap.size, j * 5 + 2, none⟩ (.int .u64 j)).setCell ⟨w.heap.size, j * 5 + 3, none⟩ (.int .i64 0)).setCell ⟨w.heap.size, j * 5 + 4, none⟩ (.pointer none)) := by
  have h1 := own_of_block how (hb1.block _ hsz)
  have hb : Below w.heap.size w w1 := hbl.trans (hb1.mono hbl.size)
  refine ⟨?_, ((((hb.setCell (Nat.le_refl _) _).setCell (Nat.le_refl _) _).setCell (Nat.le_refl _) _).setCell (Nat.le_refl _) _).setCell (Nat.le_refl _) _⟩
  have h5 := ((((((h1.stored (j * 5) (.int .u8 (f j : Nat))).1.stored (j * 5 + 1) (.int .u64 j)).1.stored (j * 5 + 2) (.int .u64 j)).1.stored (j * 5 + 3) (.int .i64 0)).1.stored (j * 5 + 4) (.pointer none))).1
  rw [set5 _ R r0 r1 r2 r3 r4 _ _ _ _ _ (j * 5) (by rw [recCells_length, mkRecs_length])] at h5
  rw [mkRecs_snoc, recCells_snoc, List.append_assoc]
  exact h5


end Go.Proofs.YbulkagdqDoor

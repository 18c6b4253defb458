import Derived.Test.YbulkagdqDoorT2
namespace Go.Proofs.YbulkagdqDoor
open Go.RowKit

/-! ### A world that has turned in the blocks D alone (and has grown) -/
structure Kp (D : List Nat) (w w' : World) : Prop where
  os : w'.os = w.os
  tape : w'.tape = w.tape
  output : w'.output = w.output
  size : w.heap.size ≤ w'.heap.size
  block : ∀ k, k < w.heap.size → k ∉ D → w'.heap[k]? = w.heap[k]?

theorem Kp.refl (D : List Nat) (w : World) : Kp D w w := ⟨rfl, rfl, rfl, Nat.le_refl _, fun _ _ _ => rfl⟩
theorem Kp.trans {D : List Nat} {a b c : World} (h : Kp D a b) (k : Kp D b c) : Kp D a c :=
  ⟨k.os.trans h.os, k.tape.trans h.tape, k.output.trans h.output, Nat.le_trans h.size k.size, fun i hi hD => (k.block i (Nat.lt_of_lt_of_le hi h.size) hD).trans (h.block i hi hD)⟩
theorem Kp.mono {D D' : List Nat} {a b : World} (h : Kp D a b) (hD : ∀ x ∈ D, x ∈ D') : Kp D' a b := ⟨h.os, h.tape, h.output, h.size, fun k hk hn => h.block k hk fun hx => hn (hD k hx)⟩
theorem Kp.drew {D : List Nat} {a w : World} (h : Kp D a w) : Kp D a w.drew := ⟨h.os, h.tape, h.output, h.size, h.block⟩
theorem Kp.alloc {D : List Nat} {a w : World} (h : Kp D a w) (o : Obj) : Kp D a (w.alloc o) :=
  h.trans ⟨rfl, rfl, rfl, by simp, fun k hk _ => Below.heap_alloc _ _ _ hk⟩
theorem Kp.setCell {D : List Nat} {a w : World} (h : Kp D a w) {p : Addr} (hp : p.block ∈ D) (u : Value) : Kp D a (w.setCell p u) :=
  h.trans ⟨rfl, rfl, rfl, by simp [World.setCell], fun k _ hn => Below.heap_setCell _ _ _ _ (fun e => hn (e ▸ hp))⟩
/-- A store into a block that is younger than 'a'. -/
theorem Kp.setNew {D : List Nat} {a w : World} (h : Kp D a w) {p : Addr} (hp : a.heap.size ≤ p.block) (u : Value) : Kp D a (w.setCell p u) :=
  ⟨h.os, h.tape, h.output, by simpa [World.setCell] using h.size, fun k hk hn => (Below.heap_setCell _ _ _ _ (by omega)).trans (h.block k hk hn)⟩
theorem Kp.grown {D : List Nat} {a w w' : World} {row : Option Nat} (h : Kp D a w) (hg : w.grownBy w' row) (hr : ∀ k, row = some k → k ∈ D) : Kp D a w' :=
  h.trans ⟨hg.os, hg.tape, hg.output, hg.size, fun k hk hn => hg.block k hk (fun e => hn (hr k e.symm))⟩
/-- The same, the written row younger than 'a'. -/
theorem Kp.grownNew {D : List Nat} {a w w' : World} {row : Option Nat} (h : Kp D a w) (hg : w.grownBy w' row) (hr : ∀ k, row = some k → a.heap.size ≤ k) : Kp D a w' :=
  ⟨hg.os.trans h.os, hg.tape.trans h.tape, hg.output.trans h.output, Nat.le_trans h.size hg.size, fun k hk hn => (hg.block k (Nat.lt_of_lt_of_le hk h.size) (fun e => by have := hr k e.symm; omega)).trans (h.block k hk hn)⟩
theorem Kp.ofBelow {D : List Nat} {a w w' : World} (h : Kp D a w) (hb : Below w.heap.size w w') : Kp D a w' :=
  h.trans ⟨hb.os, hb.tape, hb.output, hb.size, fun k hk _ => hb.block k hk⟩
/-- A part of the road whose own list D' is among D, or younger than 'a'. -/
theorem Kp.then {D D' : List Nat} {a w w' : World} (h : Kp D a w) (k : Kp D' w w') (hD : ∀ x ∈ D', x ∈ D ∨ a.heap.size ≤ x) : Kp D a w' :=
  ⟨k.os.trans h.os, k.tape.trans h.tape, k.output.trans h.output, Nat.le_trans h.size k.size, fun i hi hn => (k.block i (Nat.lt_of_lt_of_le hi h.size) (fun hx => by rcases hD i hx with h1 | h1; exact hn h1; omega)).trans (h.block i hi hn)⟩
theorem Kp.below {D : List Nat} {a w : World} (h : Kp D a w) {B : Nat} (hB : B ≤ a.heap.size) (hD : ∀ x ∈ D, B ≤ x) : Below B a w :=
  ⟨h.os, h.tape, h.output, h.size, fun k hk => h.block k (by omega) (fun hx => by have := hD k hx; omega)⟩
theorem Kp.cell {D : List Nat} {a w : World} (h : Kp D a w) {p : Addr} (hp : p.block < a.heap.size) (hn : p.block ∉ D) : w.cell? p = a.cell? p := World.cell?_of_block (w := a) (h.block p.block hp hn)
theorem Kp.frozen {D : List Nat} {a w : World} (h : Kp D a w) {p : Addr} (hp : p.block < a.heap.size) (hn : p.block ∉ D) : w.frozen? p = a.frozen? p := World.frozen?_of_block (w := a) (h.block p.block hp hn)
theorem Kp.nil {w w' : World} : Kp [] w w' ↔ Below w.heap.size w w' :=
  ⟨fun h => h.below (Nat.le_refl _) (fun _ hx => by cases hx), fun h => (Kp.refl [] w).ofBelow h⟩
theorem lt_of_cell {w : World} {p : Addr} {v : Value} (h : w.cell? p = some v) : p.block < w.heap.size := by
  rcases Nat.lt_or_ge p.block w.heap.size with h1 | h1
  · exact h1
  · simp [World.cell?, Array.getElem?_eq_none h1] at h

/-! ### The law's records, and the bucket's entries -/
structure Rec where
  key : Nat
  clk : Int
  s : Int
  n : Int
structure Rec.ok (r : Rec) : Prop where
  key : r.key < 256
  clk0 : 0 ≤ r.clk
  clk1 : r.clk ≤ 18446744073709551615
  n0 : 0 ≤ r.n
  n1 : r.n < 1000000000
def Rec.cells (r : Rec) : List Value := [.int .u8 r.key, .int .u64 r.clk, .int .u64 r.n, .int .i64 r.s, .pointer none]
structure RecAt (w : World) (b o : Nat) (r : Rec) : Prop where
  c0 : w.cell? ⟨b, o, none⟩ = some (.int .u8 r.key)
  c1 : w.cell? ⟨b, o + 1, none⟩ = some (.int .u64 r.clk)
  c2 : w.cell? ⟨b, o + 2, none⟩ = some (.int .u64 r.n)
  c3 : w.cell? ⟨b, o + 3, none⟩ = some (.int .i64 r.s)
  c4 : w.cell? ⟨b, o + 4, none⟩ = some (.pointer none)
/-- A slice of records that can be read. -/
def RecsAt (w : World) (a : Option Addr) (l : List Rec) : Prop :=
  0 < l.length → ∃ b off, a = some ⟨b, off, none⟩ ∧ b < w.heap.size ∧ ∀ j (h : j < l.length), RecAt w b (off + j * 5) l[j]
theorem RecAt.of_block {w w' : World} {b o : Nat} {r : Rec} (h : RecAt w b o r) (hb : w'.heap[b]? = w.heap[b]?) : RecAt w' b o r :=
  have f : ∀ o, w'.cell? ⟨b, o, none⟩ = w.cell? ⟨b, o, none⟩ := fun o => World.cell?_of_block (w := w) (a := ⟨b, o, none⟩) hb
  ⟨(f _).trans h.c0, (f _).trans h.c1, (f _).trans h.c2, (f _).trans h.c3, (f _).trans h.c4⟩

structure Ent where
  blk : Nat
  cap : Nat
  key : Nat
  clk : Int
  s : Int
  n : Int
def Ent.cells (r : Ent) : List Value := [.slice (some ⟨r.blk, 0, none⟩) 1 r.cap, .int .u64 r.clk, .nilIface, .int .u64 r.n, .int .i64 r.s, .pointer none]
structure EntAt (w : World) (b o : Nat) (r : Ent) : Prop where
  c0 : w.cell? ⟨b, o, none⟩ = some (.slice (some ⟨r.blk, 0, none⟩) 1 r.cap)
  c1 : w.cell? ⟨b, o + 1, none⟩ = some (.int .u64 r.clk)
  c2 : w.cell? ⟨b, o + 2, none⟩ = some .nilIface
  c3 : w.cell? ⟨b, o + 3, none⟩ = some (.int .u64 r.n)
  c4 : w.cell? ⟨b, o + 4, none⟩ = some (.int .i64 r.s)
  c5 : w.cell? ⟨b, o + 5, none⟩ = some (.pointer none)
/-- The id's own byte. -/
structure IdAt (w : World) (b c key : Nat) : Prop where
  at_ : ∃ cs : Array Value, w.heap[b]? = some (.cells cs 5 (0, 0)) ∧ cs[0]? = some (.int .u8 key)
  cap : 1 ≤ c
theorem IdAt.cell {w : World} {b c key : Nat} (h : IdAt w b c key) : w.cell? ⟨b, 0, none⟩ = some (.int .u8 key) := by
  obtain ⟨cs, h1, h2⟩ := h.at_
  simp [World.cell?, h1, h2]
theorem IdAt.of_block {w w' : World} {b c key : Nat} (h : IdAt w b c key) (hb : w'.heap[b]? = w.heap[b]?) : IdAt w' b c key := by
  obtain ⟨cs, h1, h2⟩ := h.at_
  exact ⟨⟨cs, hb.trans h1, h2⟩, h.cap⟩
def entCells (l : List Ent) : List Value := l.flatMap Ent.cells
def recCells (l : List Rec) : List Value := l.flatMap Rec.cells
theorem entCells_length (l : List Ent) : (entCells l).length = l.length * 6 := by
  induction l with
  | nil => rfl
  | cons x r ih => simp only [entCells, List.flatMap_cons, List.length_append, List.length_cons] at ih ⊢; rw [ih]; simp [Ent.cells]; omega
theorem recCells_length (l : List Rec) : (recCells l).length = l.length * 5 := by
  induction l with
  | nil => rfl
  | cons x r ih => simp only [recCells, List.flatMap_cons, List.length_append, List.length_cons] at ih ⊢; rw [ih]; simp [Rec.cells]; omega
theorem entCells_get (l : List Ent) (j t : Nat) (h : j < l.length) (ht : t < 6) (R : List Value) : (entCells l ++ R)[j * 6 + t]? = (l[j].cells)[t]? := by
  induction l generalizing j with
  | nil => simp at h
  | cons x r ih =>
    cases j with
    | zero =>
      simp only [entCells, List.flatMap_cons, List.append_assoc, Nat.zero_mul, Nat.zero_add, List.getElem_cons_zero]
      rw [List.getElem?_append_left (by simpa [Ent.cells] using ht)]
    | succ j =>
      have := ih j (by simpa using h)
      simp only [entCells, List.flatMap_cons, List.append_assoc, List.getElem_cons_succ] at this ⊢
      rw [List.getElem?_append_right (by simp [Ent.cells]; omega), ← this]
      congr 1
      simp [Ent.cells]; omega
theorem recCells_get (l : List Rec) (j t : Nat) (h : j < l.length) (ht : t < 5) (R : List Value) : (recCells l ++ R)[j * 5 + t]? = (l[j].cells)[t]? := by
  induction l generalizing j with
  | nil => simp at h
  | cons x r ih =>
    cases j with
    | zero =>
      simp only [recCells, List.flatMap_cons, List.append_assoc, Nat.zero_mul, Nat.zero_add, List.getElem_cons_zero]
      rw [List.getElem?_append_left (by simpa [Rec.cells] using ht)]
    | succ j =>
      have := ih j (by simpa using h)
      simp only [recCells, List.flatMap_cons, List.append_assoc, List.getElem_cons_succ] at this ⊢
      rw [List.getElem?_append_right (by simp [Rec.cells]; omega), ← this]
      congr 1
      simp [Rec.cells]; omega

theorem entAt_own {w : World} {base g n cap : Nat} {l : List Ent} {R : List Value} (h : w.ownsRow base 60 6 (.slice (some ⟨g, 0, none⟩) n cap) n (entCells l ++ R)) (j : Nat) (hj : j < l.length) : EntAt w g (j * 6) l[j] := by
  have hl := h.1
  rw [List.length_append, entCells_length] at hl
  have f : ∀ t, t < 6 → w.cell? ⟨g, j * 6 + t, none⟩ = (l[j].cells)[t]? := fun t ht => by rw [h.cellAt (j * 6 + t) (by omega)]; exact entCells_get l j t hj ht R
  exact ⟨f 0 (by omega), f 1 (by omega), f 2 (by omega), f 3 (by omega), f 4 (by omega), f 5 (by omega)⟩
theorem recAt_own {w : World} {base g n cap : Nat} {l : List Rec} {R : List Value} (h : w.ownsRow base 31 5 (.slice (some ⟨g, 0, none⟩) n cap) n (recCells l ++ R)) (j : Nat) (hj : j < l.length) : RecAt w g (j * 5) l[j] := by
  have hl := h.1
  rw [List.length_append, recCells_length] at hl
  have f : ∀ t, t < 5 → w.cell? ⟨g, j * 5 + t, none⟩ = (l[j].cells)[t]? := fun t ht => by rw [h.cellAt (j * 5 + t) (by omega)]; exact recCells_get l j t hj ht R
  exact ⟨f 0 (by omega), f 1 (by omega), f 2 (by omega), f 3 (by omega), f 4 (by omega)⟩

theorem set6 (A R : List Value) (r0 r1 r2 r3 r4 r5 c0 c1 c2 c3 c4 c5 : Value) (m : Nat) (h : A.length = m) :
    (((((((A ++ r0 :: r1 :: r2 :: r3 :: r4 :: r5 :: R).set m c0).set (m + 1) c1).set (m + 2) c2).set (m + 3) c3).set (m + 4) c4).set (m + 5) c5) = A ++ c0 :: c1 :: c2 :: c3 :: c4 :: c5 :: R := by
  subst h
  simp
theorem set5 (A R : List Value) (r0 r1 r2 r3 r4 c0 c1 c2 c3 c4 : Value) (m : Nat) (h : A.length = m) :
    ((((((A ++ r0 :: r1 :: r2 :: r3 :: r4 :: R).set m c0).set (m + 1) c1).set (m + 2) c2).set (m + 3) c3).set (m + 4) c4) = A ++ c0 :: c1 :: c2 :: c3 :: c4 :: R := by
  subst h
  simp

theorem Ybad.info60 : (Ybad.prog.info? 60).map (fun i => (i.zero, i.size, i.bytes)) = some (some (.agg #[.slice none 0 0, .int .u64 0, .nilIface, .int .u64 0, .int .i64 0, .pointer none]), 6, 72) := by kernel_rfl
theorem Ybad.info31 : (Ybad.prog.info? 31).map (fun i => (i.zero, i.size, i.bytes)) = some (some (.agg #[.int .u8 0, .int .u64 0, .int .u64 0, .int .i64 0, .pointer none]), 5, 40) := by kernel_rfl

end Go.Proofs.YbulkagdqDoor

import Derived.Test.YbulkaggiBa
import Derived.Test.YbulkaggiCa
import Derived.Deep.DeepCutAuto
namespace Go.Proofs.Ybulkaggi.BM
open Go.RowKit Go.Proofs.Ybulkaggi
open Go.Proofs.Ybulkaggi.CE (hlt tag_ne)
set_option linter.unusedVariables false
set_option maxRecDepth 100000

/-- A run: its transaction's block, and where its positions lie. -/
structure RunV where
  tb : Nat
  g : Nat
  o : Nat
  c : Nat
  A : List Nat
def RunV.val (r : RunV) : Value := .agg #[Pp r.tb, .slice (some ⟨r.g, r.o, none⟩) r.A.length r.c]
structure RunAt (w : World) (L : List O3) (j : Nat) (r : RunV) (t f l s : Nat) : Prop where
  blk : w.heap[r.tb]? = some (.cells #[.int .i64 (t : Int), .int .i64 (f : Int), .int .i64 (l : Int), .int .i64 (s : Int)] 99 (0, 0))
  pos : ∀ i (h : i < r.A.length), w.cell? ⟨r.g, r.o + i, none⟩ = some (.int .i64 (r.A[i] : Nat))
  mem : ∀ p, p ∈ r.A ↔ (rdP L p t j ∨ wrP L p t j)
  asc : r.A.Pairwise (· < ·)
  lt : r.g < w.heap.size
theorem RunAt.keep {w w' : World} {L : List O3} {j : Nat} {r : RunV} {t f l s : Nat} (h : RunAt w L j r t f l s) (e1 : w'.heap[r.tb]? = w.heap[r.tb]?) (e2 : w'.heap[r.g]? = w.heap[r.g]?) (e3 : w.heap.size ≤ w'.heap.size) : RunAt w' L j r t f l s :=
  ⟨e1.trans h.blk, fun i hi => (World.cell?_of_block e2).trans (h.pos i hi), h.mem, h.asc, Nat.lt_of_lt_of_le h.lt e3⟩
theorem rd_lt {L : List O3} {p t j : Nat} (h : rdP L p t j ∨ wrP L p t j) : p < L.length := by
  rcases h with ⟨o, h, _⟩ | ⟨o, h, _⟩ <;> exact (List.getElem?_eq_some_iff.1 h).1

/-- Where the pass stands in one run. -/
structure At (A : List Nat) (i u : Nat) : Prop where
  le : i ≤ A.length
  lo : ∀ k (h : k < A.length), k < i → A[k] < u
  hi : ∀ k (h : k < A.length), i ≤ k → u ≤ A[k]
theorem At.start (A : List Nat) : At A 0 0 := ⟨Nat.zero_le _, fun k h h' => by omega, fun k h h' => Nat.zero_le _⟩
theorem At.take {A : List Nat} {i u : Nat} (h : At A i u) (asc : A.Pairwise (· < ·)) (hi : i < A.length) : At A (i + 1) (A[i] + 1) :=
  ⟨hi, fun k hk h' => by
    by_cases e : k = i
    · subst e; omega
    · have := List.pairwise_iff_getElem.1 asc k i hk hi (by omega)
      omega, fun k hk h' => by
    have := List.pairwise_iff_getElem.1 asc i k hi hk (by omega)
    omega⟩
theorem At.pass {A : List Nat} {i u p : Nat} (h : At A i u) (hp : ∀ k (hk : k < A.length), i ≤ k → p < A[k]) (hu : u ≤ p) : At A i (p + 1) :=
  ⟨h.le, fun k hk h' => by have := h.lo k hk h'; omega, fun k hk h' => hp k hk h'⟩
/-- Nothing between u and the next one. -/
theorem gap_of {E : Ev} {A B : List Nat} {i k u p : Nat} (ha : At A i u) (hb : At B k u) (mA : ∀ p, p ∈ A ↔ (rdP E.L p E.a E.j ∨ wrP E.L p E.a E.j)) (mB : ∀ p, p ∈ B ↔ (rdP E.L p E.b E.j ∨ wrP E.L p E.b E.j)) (hu : u ≤ p)
    (nA : ∀ x (hx : x < A.length), i ≤ x → p ≤ A[x]) (nB : ∀ x (hx : x < B.length), k ≤ x → p ≤ B[x]) : E.gap u p := by
  have fA : ∀ x, u ≤ x → x < p → x ∉ A := fun x h1 h2 hx => by
    obtain ⟨y, hy, rfl⟩ := List.mem_iff_getElem.1 hx
    by_cases e : y < i
    · have := ha.lo y hy e; omega
    · have := nA y hy (by omega); omega
  have fB : ∀ x, u ≤ x → x < p → x ∉ B := fun x h1 h2 hx => by
    obtain ⟨y, hy, rfl⟩ := List.mem_iff_getElem.1 hx
    by_cases e : y < k
    · have := hb.lo y hy e; omega
    · have := nB y hy (by omega); omega
  refine ⟨hu, fun x h1 h2 => ⟨fun h => fA x h1 h2 ((mA x).2 (.inl h)), fun h => fA x h1 h2 ((mA x).2 (.inr h)), fun h => fB x h1 h2 ((mB x).2 (.inl h)), fun h => fB x h1 h2 ((mB x).2 (.inr h))⟩⟩

def CmpPost (w : World) (E : Ev) (e : Ending) (w' : World) : Prop :=
  ∃ ls nr rb ra : Bool, e = .returned (.agg #[.bool ls, .bool nr, .bool rb, .bool ra]) ∧ (ls = true ↔ E.lost E.L.length) ∧ (nr = true ↔ E.non E.L.length) ∧ (rb = true ↔ E.rb E.L.length) ∧ (ra = true ↔ E.ra E.L.length) ∧ Below w.heap.size w w'
abbrev flC (ls nr rb ra : Bool) : Array Value := #[.bool ls, .bool nr, .bool rb, .bool ra]

end Go.Proofs.Ybulkaggi.BM

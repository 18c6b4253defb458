import Derived.Test.YbulkagfuFmtF6b
namespace Go.Proofs.YbulkagfuFmt
open Go.RowKit Go.WideMaps Go.Maps Go.Extern.Stop Go.Stop Go.Extern Go.MuLone
set_option linter.unusedVariables false
set_option maxRecDepth 100000

/-- What is left alone: all below base, and the rows of tag 40. -/
def Fr (base : Nat) (w w' : World) : Prop := Below base w w' ∧ ∀ (k : Nat) (cs : Array Value), w.heap[k]? = some (Obj.cells cs 40 (0, 0)) → w'.heap[k]? = some (Obj.cells cs 40 (0, 0))
theorem Fr.refl (base : Nat) (w : World) : Fr base w w := ⟨Below.refl _ _, fun _ _ h => h⟩
theorem Fr.trans {base : Nat} {a b c : World} (h : Fr base a b) (k : Fr base b c) : Fr base a c := ⟨h.1.trans k.1, fun x cs hx => k.2 x cs (h.2 x cs hx)⟩
theorem Fr.step {base : Nat} {a w w' : World} (h : Fr base a w) (S : Nat → Prop) (hos : w'.os = w.os) (ht : w'.tape = w.tape) (ho : w'.output = w.output) (hz : w.heap.size ≤ w'.heap.size) (hb : ∀ k, k < w.heap.size → ¬ S k → w'.heap[k]? = w.heap[k]?) (hbase : base ≤ w.heap.size)
    (hS : ∀ k, S k → base ≤ k ∧ ∀ cs, w.heap[k]? ≠ some (.cells cs 40 (0, 0))) : Fr base a w' :=
  h.trans ⟨⟨hos, ht, ho, hz, fun k hk => hb k (by omega) (fun hs => by have := (hS k hs).1; omega)⟩, fun k cs hk => (hb k (Array.getElem?_eq_some_iff.1 hk).1 (fun hs => (hS k hs).2 cs hk)).trans hk⟩
theorem Fr.grown {base : Nat} {a w w' : World} {row : Option Nat} (h : Fr base a w) (hg : w.grownBy w' row) (hbase : base ≤ w.heap.size) (hS : ∀ k, row = some k → base ≤ k ∧ ∀ cs, w.heap[k]? ≠ some (.cells cs 40 (0, 0))) : Fr base a w' :=
  h.step (fun k => row = some k) hg.os hg.tape hg.output hg.size (fun k hk hne => hg.block k hk (fun e => hne e.symm)) hbase hS
theorem Fr.set38 {base sb i : Nat} {a w : World} {cs : Array Value} (h : Fr base a w) (hs : w.heap[sb]? = some (.cells cs 38 (0, 0))) (hsb : base ≤ sb) (v : Value) : Fr base a (w.setCell ⟨sb, i, none⟩ v) :=
  h.step (fun k => k = sb) rfl rfl rfl (by simp [World.setCell]) (fun k _ hk => Below.heap_setCell w ⟨sb, i, none⟩ v k hk) (by have := (Array.getElem?_eq_some_iff.1 hs).1; omega) (fun k hk => ⟨by omega, fun cs' e => by rw [hk, hs] at e; simp at e⟩)
theorem ranges_keep {H : Type} {P : Program} {k : TypeId} {R : Value → Option (DataW H × List MemPlace)} {w w' : World} {b r n : Nat} {D : DataW H} {left : Lit → Bool} {cnt : Nat} (h : w.ranges P k R b r n D left cnt) (hb : w'.heap[b]? = w.heap[b]?) (hr : w'.heap[r]? = w.heap[r]?) : w'.ranges P k R b r n D left cnt := by
  obtain ⟨es, clock, since, seen, c0, h1, F, hs, hD, h2, rest⟩ := h
  exact ⟨es, clock, since, seen, c0, hb.trans h1, F, hs, hD, hr.trans h2, rest⟩
theorem ranges_map {H : Type} {P : Program} {k : TypeId} {R : Value → Option (DataW H × List MemPlace)} {w : World} {b r n : Nat} {D : DataW H} {left : Lit → Bool} {cnt : Nat} (h : w.ranges P k R b r n D left cnt) : (∃ es cl, w.heap[b]? = some (.map es cl)) ∧ ∃ m s e c0, w.heap[r]? = some (.mapIter m s e c0) := by
  obtain ⟨es, clock, since, seen, c0, h1, F, hs, hD, h2, rest⟩ := h
  exact ⟨⟨_, _, h1⟩, _, _, _, _, h2⟩
theorem RecAt.own_base {w : World} {base R M K n : Nat} {mk : Nat → Bool} {wt : Int} {T : Nat → List Int} {B : Nat → Option Nat} (h : RecAt w base R M K n mk wt T B) {j k : Nat} (hj : j < n) (hk : B j = some k) : base ≤ k := by
  obtain ⟨cs, _, h2⟩ := h.msg
  obtain ⟨v, _, h4, h5⟩ := h2 j hj
  rw [hk] at h5
  rcases h4.2 with ⟨rfl, _⟩ | ⟨g, cap, cur, rfl, hg, _⟩
  · simp [Value.ownBlock] at h5
  · simp [Value.ownBlock] at h5
    omega
end Go.Proofs.YbulkagfuFmt

import Derived.Test.YbulkaggiE6
namespace Go.Proofs.Ybulkaggi
open Go.RowKit Go.Sort
set_option linter.unusedVariables false
set_option maxRecDepth 100000

theorem info32 : (Yba.prog.info? 32).map (fun i => (i.zero, i.size, i.bytes)) = some (some (.agg #[.string { data := #[] }, .int .i64 0, .int .i64 0, .slice none 0 0]), 4, 56) := by kernel_rfl

/-- A row of anomalies that the call itself made. -/
structure Ans (w : World) (base : Nat) (v : Value) (L : List An) : Prop where
  row : w.ownsRow base 32 4 v L.length (L.flatMap encA)
  items : ∀ x ∈ L, Items w x ∧ base ≤ x.2

theorem Ans.nil (w : World) (base : Nat) : Ans w base (.slice none 0 0) [] := ⟨World.ownsRow_nil _ _ _ _, fun _ h => absurd h (by simp)⟩
theorem own_block {w : World} {base : Nat} {e : TypeId} {size : Nat} {v : Value} {n : Nat} {xs : List Value} (h : w.ownsRow base e size v n xs) {k : Nat} (hk : v.ownBlock = some k) : ∃ cs, w.heap[k]? = some (.cells cs e (0, 0)) := by
  rcases h.2 with ⟨rfl, _⟩ | ⟨g, cap, cur, rfl, _, hg, _⟩
  · simp [Value.ownBlock] at hk
  · simp [Value.ownBlock] at hk
    subst hk
    exact ⟨cur, hg⟩
theorem Items.ne {w : World} {x : An} {k : Nat} {cs : Array Value} {e : TypeId} (h : Items w x) (hk : w.heap[k]? = some (.cells cs e (0, 0))) (he : e ≠ 9) : x.2 ≠ k := by
  intro e'
  unfold Items at h
  rw [e', hk] at h
  simp at h
  exact he h.2
theorem Items.lt {w : World} {x : An} (h : Items w x) : x.2 < w.heap.size := (Array.getElem?_eq_some_iff.1 h).1

/-- One more anomaly. -/
theorem Ans.push {w : World} {base : Nat} {v v' : Value} {L : List An} {a b : Int} {s t : ByteArray} {w3 : World} (h : Ans w base v L) (hb : base ≤ w.heap.size)
    (ho : w3.ownsRow base 32 4 v' (L.length + 1) (L.flatMap encA ++ [.string kindV, .int .i64 a, .int .i64 b, .slice (some ⟨w.heap.size, 0, none⟩) 2 2]))
    (hg : ((w.alloc (.cells #[.string s, .string t] 9)).alloc (.cells #[.string kindV, .int .i64 a, .int .i64 b, .slice (some ⟨w.heap.size, 0, none⟩) 2 2] 32)).grownBy w3 v.ownBlock) :
    Ans w3 base v' (L ++ [((a, b, s, t), w.heap.size)]) := by
  refine ⟨by simpa [encA] using ho, fun x hx => ?_⟩
  have key : ∀ k, k < w.heap.size + 1 → some k ≠ v.ownBlock → w3.heap[k]? = (w.alloc (.cells #[.string s, .string t] 9)).heap[k]? := fun k hk hne => by
    rw [hg.block k (by simp; omega) hne]
    exact Below.heap_alloc _ _ _ (by simp; omega)
  rcases List.mem_append.1 hx with hx | hx
  · obtain ⟨h1, h2⟩ := h.items x hx
    refine ⟨?_, h2⟩
    have hl := h1.lt
    unfold Items
    rw [key x.2 (by omega) (fun e => by
      obtain ⟨cs, hcs⟩ := own_block h.row e.symm
      exact h1.ne hcs (by decide) rfl)]
    exact (Below.heap_alloc _ _ _ hl).trans h1
  · obtain rfl := List.mem_singleton.1 hx
    refine ⟨?_, hb⟩
    unfold Items
    rw [key w.heap.size (by omega) (fun e => by have := (h.row.lt _ e.symm).2; omega)]
    exact heap_alloc_new w _

end Go.Proofs.Ybulkaggi

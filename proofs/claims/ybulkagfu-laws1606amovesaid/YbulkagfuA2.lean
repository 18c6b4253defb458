import Derived.Test.YbulkagfuA1
namespace Go.Proofs.Ybulkagfu
open Go.RowKit
set_option linter.unusedVariables false
set_option maxRecDepth 100000

theorem Yba.inf5 : (Yba.prog.info? 5).map (fun i => i.size) = some 1 := by kernel_rfl
theorem hide {p : Prop} (h : p) : Hid p := h
theorem unhide {p : Prop} (h : Hid p) : p := h
theorem heap_new_at (w : World) (o : Obj) (k : Nat) (hk : k = w.heap.size) : (w.alloc o).heap[k]? = some o := by subst hk; exact heap_alloc_new w o
theorem cell_of_heap {w : World} {b : Nat} {cs : Array Value} {t : TypeId} (h : w.heap[b]? = some (.cells cs t (0, 0))) (i : Nat) : w.cell? ⟨b, i, none⟩ = cs[i]? := by simp [World.cell?, h]
theorem free_of_heap {w : World} {b : Nat} {cs : Array Value} {t : TypeId} (h : w.heap[b]? = some (.cells cs t (0, 0))) (i : Nat) : w.frozen? ⟨b, i, none⟩ = false := by simp [World.frozen?, h]
theorem below_al {w W : World} (h : Below w.heap.size w W) (o : Obj) : Below w.heap.size w (W.alloc o) := h.alloc h.size o

theorem eq_copy {X : World} {base : Nat} {ao a : Option Addr} {n cc cap : Nat} {zs : List Int} (hn : n ≤ 1024) (hcp : Cp X base ao n zs) (ha : 0 < n → ∃ x, a = some x) (hc : ∀ x, a = some x → ∀ i, i < n → X.cell? (x.add i) = some (.int .u8 (zs.getD i 0))) :
    Calls Yba.prog 7 #[.slice ao n cc, .slice a n cap] X fun e w' => e = .returned (.bool true) ∧ Below X.heap.size X w' := by
  refine eq_any ao a n cc cap X hn fun h0 => ?_
  obtain ⟨g, h1, h2, h3, h4⟩ := hcp.at_ h0
  obtain ⟨x, hx⟩ := ha h0
  refine ⟨_, x, h1, hx, fun i hi => ⟨zs.getD i 0, ?_, hc x hx i hi⟩⟩
  have e : (⟨g, 0, none⟩ : Addr).add i = ⟨g, i, none⟩ := by
    unfold Addr.add
    split
    · rename_i h; subst h; rfl
    · simp
  rw [e]
  exact h4 i hi

end Go.Proofs.Ybulkagfu

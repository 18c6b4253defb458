import Derived.Test.YbulkagfuFmtF7
namespace Go.Proofs.YbulkagfuFmt
open Go.RowKit Go.WideMaps Go.Maps Go.Extern.Stop Go.Stop Go.Extern Go.MuLone
set_option linter.unusedVariables false
set_option maxRecDepth 100000

/-- The loops of a code, the outer one first. -/
def loopsOf : Code → List Code
  | .loop c => .loop c :: loopsOf c
  | .seq a b => loopsOf a ++ loopsOf b
  | .block _ c => loopsOf c
  | .scope c => loopsOf c
  | .cond _ a b => loopsOf a ++ loopsOf b
  | _ => []
def lpOf (b : Option Code) (k : Nat) : Code := ((b.map loopsOf).getD []).getD k .skip

/-- All but the blocks S is as it was; no block is new. -/
structure Only (S : Nat → Prop) (w w' : World) : Prop where
  os : w'.os = w.os
  tape : w'.tape = w.tape
  output : w'.output = w.output
  size : w'.heap.size = w.heap.size
  block : ∀ k, ¬ S k → w'.heap[k]? = w.heap[k]?
theorem Only.refl (S : Nat → Prop) (w : World) : Only S w w := ⟨rfl, rfl, rfl, rfl, fun _ _ => rfl⟩
theorem Only.setCell {S : Nat → Prop} {w w' : World} (h : Only S w w') {a : Addr} (ha : S a.block) (v : Value) : Only S w (w'.setCell a v) :=
  ⟨h.os, h.tape, h.output, by simpa [World.setCell] using h.size, fun k hk => (Below.heap_setCell w' a v k (fun e => hk (e ▸ ha))).trans (h.block k hk)⟩
theorem Only.drew {S : Nat → Prop} {w w' : World} (h : Only S w w') : Only S w w'.drew := ⟨h.os, h.tape, h.output, h.size, h.block⟩
theorem Only.below {S : Nat → Prop} {w w' a : World} {B : Nat} (h : Only S w w') (hb : Below B a w) (hS : ∀ k, S k → B ≤ k) : Below B a w' :=
  hb.trans ⟨h.os, h.tape, h.output, by rw [h.size]; exact Nat.le_refl _, fun k hk => h.block k (fun hs => by have := hS k hs; omega)⟩

end Go.Proofs.YbulkagfuFmt

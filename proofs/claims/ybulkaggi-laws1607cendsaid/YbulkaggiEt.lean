import Derived.Test.YbulkaggiE6
import Derived.Test.YbulkaggiEs
import Derived.Test.YbulkaggiCf
namespace Go.Proofs.Ybulkaggi.CE
open Go.Shelf Go.RowKit Go.Lib Go.Sort
set_option linter.unusedVariables false
set_option maxRecDepth 100000

shelf_lay_g SlLaysF0.n6 Slsf 6 at Yba 94 as Yba.sortIgn

def cmpG (x y : Int × Int) : Int := orI (cmpI y.1 x.1) (cmpI y.2 x.2)
theorem cmpI_same (a b : Int) : cmpI a b = Ybulkaggi.cmpI a b := rfl
theorem cmpI_neg (a b : Int) : cmpI b a = Ybulkaggi.cmpI (-a) (-b) := by
  simp only [cmpI, Ybulkaggi.cmpI]
  split <;> split <;> (try split) <;> (try split) <;> omega
theorem cmpG_three : Cmp3 cmpG := by
  have h := Cmp3.lex (cmpI_three fun x : Int × Int => -x.1) (cmpI_three fun x : Int × Int => -x.2)
  have e : cmpG = fun x y => orI (Ybulkaggi.cmpI (-x.1) (-y.1)) (Ybulkaggi.cmpI (-x.2) (-y.2)) := by
    funext x y
    simp only [cmpG, cmpI_neg]
  rw [e]
  exact h
theorem ign_one : ∀ x : Int × Int, ∀ v ∈ ignC x, v.oneCell' = true := fun x v hv => by
  simp [ignC] at hv
  rcases hv with rfl | rfl <;> rfl

theorem sortC : SortC := fun g cp n base l w ho hl hn => by
  have eg : ∀ args w, (callFunc 95 args).run Yba.prog w = .ok (.enter 95 args) w := enters_of Yba.func95 (by kernel_rfl) rfl
  have hk : ∀ x : Int × Int, (ignC x).length = 2 := fun _ => rfl
  have hcmp : CmpLays Yba.prog 95 #[] ignC 2 cmpG g 0 l.toArray.size w := fun _ _ _ _ x y => by_ign x.1 x.2 y.1 y.2 _
  have hH : HoldsK ignC 2 w g 0 l.toArray := own_holdsK hk (e := 150) (base := base) (n := n) (cp := cp) (by simpa using ho) (by simpa using hl)
  have hb : g < w.heap.size := (ho.lt g rfl).2
  have hcon := AnyQ.slices_SortFunc Yba.sortIgn 2 Yba.isAgg150 Yba.sizeOf150 ignC hk ign_one cmpG cmpG_three.swo 95 #[] g 0 cp l.toArray w eg hcmp hH hb (by simp; omega)
  change Calls Yba.prog 94 _ _ _ at hcon
  have e : l.toArray.size = n := by simpa using hl
  rw [e] at hcon
  refine hcon.mono ?_
  rintro e w' ⟨rfl, d', m, os, hp, hs, rfl⟩
  have hp' : PermIn 0 l.toArray.size l.toArray d' := by simpa [hl] using hp
  obtain ⟨h1, h2⟩ := perm_of hp'
  have hsz : d'.size = n := by simpa [hl] using h1
  have hown := own_sorted (m := m) (os := os) hk ho hsz
  exact ⟨rfl, ⟨_, ign_u64 _, hown.1⟩, ⟨hown.2.os, hown.2.tape, hown.2.output, hown.2.size, fun k hk hn => hown.2.block k hk (fun e => hn (by rw [e]))⟩⟩

end Go.Proofs.Ybulkaggi.CE

import Derived.Test.YbulkaggiE5
import Derived.Shelf.SlSortCmp.WholeK
import Derived.Shelf.Lay
import Derived.Ground.SlsfProg
namespace Go.Proofs.Ybulkaggi
open Go.Shelf Go.RowKit Go.Lib Go.Sort
set_option linter.unusedVariables false
set_option maxRecDepth 100000

shelf_lay_g SlLaysF0.n6 Slsf 6 at Yba 24 as Yba.sortHalf
shelf_lay_g SlLaysF0.n6 Slsf 6 at Yba 9 as Yba.sortAn

theorem perm_of {α : Type} [Inhabited α] {d d' : Array α} (h : PermIn 0 d.size d d') : d'.size = d.size ∧ d'.toList.Perm d.toList := by
  obtain ⟨h1, _, h3⟩ := h
  refine ⟨h1, ?_⟩
  have e : List.take d.size d'.toList = d'.toList := List.take_of_length_le (by simp [h1])
  simp at h3
  rwa [e] at h3

theorem sorted_of {α : Type} [Inhabited α] {c : α → α → Int} {d : Array α} {n : Nat} (hn : d.size = n) (h : SortedIn (ltOf c) 0 n d) : d.toList.Pairwise fun x y => ¬ c y x < 0 := by
  rw [List.pairwise_iff_getElem]
  intro i j hi hj hij
  have hi' : i < d.size := by simpa using hi
  have hj' : j < d.size := by simpa using hj
  have e := h i j (Nat.zero_le _) hij (by omega)
  rw [getElem!_pos d i hi', getElem!_pos d j hj'] at e
  simpa [ltOf] using e

theorem encH_one : ∀ x : H, ∀ v ∈ encH x, v.oneCell' = true := fun x v hv => by
  simp [encH] at hv
  rcases hv with rfl | rfl | rfl <;> rfl

theorem sort_half (g cp n base : Nat) (l : List H) (w : World) (ho : w.ownsRow base 74 3 (.slice (some ⟨g, 0, none⟩) n cp) n (flatH l)) (hl : l.length = n) (hn : n ≤ 256) :
    Calls Yba.prog 24 #[.slice (some ⟨g, 0, none⟩) n cp, .func (.func 23) #[] #[]] w fun e w' => e = .returned (.tuple #[]) ∧ ∃ l' : List H, l'.Perm l ∧ Srt l' ∧ l'.length = n ∧ w'.ownsRow base 74 3 (.slice (some ⟨g, 0, none⟩) n cp) n (flatH l') ∧ At1 g w w' := by
  have eg : ∀ args w, (callFunc 23 args).run Yba.prog w = .ok (.enter 23 args) w := enters_of Yba.func23 (by kernel_rfl) rfl
  have hk : ∀ x : H, (encH x).length = 3 := fun _ => rfl
  have hcmp : CmpLays Yba.prog 23 #[] encH 3 cmpH g 0 l.toArray.size w := fun _ _ _ _ x y => by_pair x.1 x.2.1 x.2.2 y.1 y.2.1 y.2.2 _
  have hH : HoldsK encH 3 w g 0 l.toArray := own_holdsK hk (e := 74) (base := base) (n := n) (cp := cp) (by simpa [flatH] using ho) (by simpa using hl)
  have hb : g < w.heap.size := (ho.lt g rfl).2
  have hcon := AnyQ.slices_SortFunc Yba.sortHalf 3 Yba.isAgg74 Yba.sizeOf74 encH hk encH_one cmpH cmpH_three.swo 23 #[] g 0 cp l.toArray w eg hcmp hH hb (by simp; omega)
  change Calls Yba.prog 24 _ _ _ at hcon
  have e : l.toArray.size = n := by simpa using hl
  rw [e] at hcon
  refine hcon.mono ?_
  rintro e w' ⟨rfl, d', m, os, hp, hs, rfl⟩
  have hp' : PermIn 0 l.toArray.size l.toArray d' := by simpa [hl] using hp
  obtain ⟨h1, h2⟩ := perm_of hp'
  have hsz : d'.size = n := by simpa [hl] using h1
  have hown := own_sorted (m := m) (os := os) hk ho hsz
  refine ⟨rfl, d'.toList, by simpa using h2, ?_, by simpa using hsz, hown.1, hown.2⟩
  have hso := List.pairwise_iff_getElem.1 (sorted_of hsz hs)
  refine List.pairwise_iff_getElem.2 fun i j hi hj hij h => ?_
  exact hso i j hi hj hij ((cmpH_val _ _).1.2 h)

end Go.Proofs.Ybulkaggi

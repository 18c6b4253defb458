import Derived.Test.YbulkaggiE7
import Derived.Shelf.SlSortCmp.NoneTotal
namespace Go.Proofs.Ybulkaggi
open Go.Shelf Go.RowKit Go.Lib Go.Sort
set_option linter.unusedVariables false
set_option maxRecDepth 100000

theorem encA_one : ∀ x : An, ∀ v ∈ encA x, v.oneCell' = true := fun x v hv => by
  simp [encA] at hv
  rcases hv with rfl | rfl | rfl | rfl <;> rfl

theorem sort_an_none (p : Option Addr) (cp : Nat) (w : World) : Calls Yba.prog 9 #[.slice p 0 cp, .func (.func 10) #[] #[]] w fun e w' => e = .returned (.tuple #[]) ∧ w' = w := by
  have h := AnyF.slices_SortFunc_none Yba.sortAn p cp (.func (.func 10) #[] #[]) w
  change Calls Yba.prog 9 _ _ _ at h
  exact h

theorem pmap_val {p : An → Prop} : ∀ (L : List An) (h : ∀ x ∈ L, p x), (L.pmap (fun x hx => (⟨x, hx⟩ : {x : An // p x})) h).map Subtype.val = L
  | [], _ => rfl
  | x :: L, h => by simp [List.map_pmap]

theorem flat_val {p : An → Prop} (l : List {x : An // p x}) : l.flatMap (fun x => encA x.1) = (l.map Subtype.val).flatMap encA := by
  induction l with
  | nil => rfl
  | cons x l ih => simp [ih]

theorem sort_an (g cp base : Nat) (L : List An) (w : World) (h0 : 0 < L.length) (hn : L.length ≤ 65536) (hA : Ans w base (.slice (some ⟨g, 0, none⟩) L.length cp) L) :
    Calls Yba.prog 9 #[.slice (some ⟨g, 0, none⟩) L.length cp, .func (.func 10) #[] #[]] w fun e w' => e = .returned (.tuple #[]) ∧ ∃ L' : List An, L'.Perm L ∧ L'.Pairwise (fun x y => ¬ cmpD y.1 x.1 < 0) ∧ Ans w' base (.slice (some ⟨g, 0, none⟩) L.length cp) L' ∧ At1 g w w' := by
  have eg : ∀ args w, (callFunc 10 args).run Yba.prog w = .ok (.enter 10 args) w := enters_of Yba.func10 (by kernel_rfl) rfl
  obtain ⟨x0, hx0⟩ : ∃ x, x ∈ L := ⟨L[0], List.getElem_mem h0⟩
  haveI : Inhabited {x : An // Items w x} := ⟨⟨x0, (hA.items x0 hx0).1⟩⟩
  have hI : ∀ x ∈ L, Items w x := fun x hx => (hA.items x hx).1
  obtain ⟨l, hl⟩ : ∃ l : List {x : An // Items w x}, l.map Subtype.val = L := ⟨_, pmap_val L hI⟩
  have hll : l.length = L.length := by rw [← hl]; simp
  have hk : ∀ x : {x : An // Items w x}, (encA x.1).length = 4 := fun _ => rfl
  have hrow : w.ownsRow base 32 4 (.slice (some ⟨g, 0, none⟩) L.length cp) L.length (l.toArray.toList.flatMap fun x => encA x.1) := by
    have h := hA.row
    rw [← hl] at h
    rw [flat_val, ← hl]
    simpa using h
  obtain ⟨cs, hcs⟩ := own_block hA.row (k := g) rfl
  have hcmp : CmpLays Yba.prog 10 #[] (fun x : {x : An // Items w x} => encA x.1) 4 (fun x y => cmpD x.1.1 y.1.1) g 0 l.toArray.size w := by
    intro m os dk hdk x y
    have hat := (own_sorted (m := m) (os := os) (d := dk) hk hrow (by rw [hdk]; simpa using hll)).2
    have ix : Items (sortWorldK (fun x : {x : An // Items w x} => encA x.1) 4 w g 0 m dk os) x.1 := (hat.block _ x.2.lt (x.2.ne hcs (by decide))).trans x.2
    have iy : Items (sortWorldK (fun x : {x : An // Items w x} => encA x.1) 4 w g 0 m dk os) y.1 := (hat.block _ y.2.lt (y.2.ne hcs (by decide))).trans y.2
    obtain ⟨⟨⟨a, b, s, t⟩, gx⟩, hx⟩ := x
    obtain ⟨⟨⟨a', b', s', t'⟩, gy⟩, hy⟩ := y
    exact cmp10 a b s t gx a' b' s' t' gy _ ix iy
  have hH := own_holdsK (e := 32) (base := base) (n := L.length) (cp := cp) hk hrow (by simpa using hll)
  have hb : g < w.heap.size := (hA.row.lt g rfl).2
  have hcon := AnyQ.slices_SortFunc Yba.sortAn 4 Yba.isAgg32 Yba.sizeOf32 (fun x : {x : An // Items w x} => encA x.1) hk (fun x v hv => encA_one x.1 v hv) (fun x y => cmpD x.1.1 y.1.1) ((cmpK_three.on fun x : {x : An // Items w x} => keyD x.1.1).swo) 10 #[] g 0 cp l.toArray w eg hcmp hH hb (by simp; omega)
  change Calls Yba.prog 9 _ _ _ at hcon
  have e : l.toArray.size = L.length := by simpa using hll
  rw [e] at hcon
  refine hcon.mono ?_
  rintro e w' ⟨rfl, d', m, os, hp, hs, rfl⟩
  have hp' : PermIn 0 l.toArray.size l.toArray d' := by simpa [hll] using hp
  obtain ⟨h1, h2⟩ := perm_of hp'
  have hsz : d'.size = L.length := by simpa [hll] using h1
  have hown := own_sorted (m := m) (os := os) (d := d') hk hrow hsz
  have hperm : (d'.toList.map Subtype.val).Perm L := by
    rw [← hl]
    exact (by simpa using h2 : d'.toList.Perm l).map _
  refine ⟨rfl, d'.toList.map Subtype.val, hperm, ?_, ⟨?_, fun x hx => ?_⟩, hown.2⟩
  · rw [List.pairwise_map]
    exact sorted_of hsz hs
  · have h := hown.1
    rw [flat_val] at h
    have el : (d'.toList.map Subtype.val).length = L.length := hperm.length_eq
    rw [el]
    exact h
  · have hx' := hperm.subset hx
    obtain ⟨i1, i2⟩ := hA.items x hx'
    exact ⟨(hown.2.block _ i1.lt (i1.ne hcs (by decide))).trans i1, i2⟩

end Go.Proofs.Ybulkaggi

import Derived.Test.YbulkaggiFb
namespace Go.Proofs.Ybulkaggi.BM
open Go.RowKit Go.Proofs.Ybulkaggi Go.Sort Go.Shelf Go.Lib
open Go.Proofs.Ybulkaggi.CE (hlt tag_ne own_tag own_keep size_set)
set_option linter.unusedVariables false
set_option maxRecDepth 100000

def Good (w : World) (x : An2) : Prop := ItN w x ∧ (x.is.length = 1 ∨ x.is.length = 2)
structure AnsN (w : World) (base : Nat) (v : Value) (L : List An2) : Prop where
  row : w.ownsRow base 32 4 v L.length (L.flatMap encN)
  items : ∀ x ∈ L, Good w x ∧ base ≤ x.g
theorem encN_one : ∀ x : An2, ∀ v ∈ encN x, v.oneCell' = true := fun x v hv => by
  simp [encN] at hv
  rcases hv with rfl | rfl | rfl | rfl <;> rfl
theorem sort_an2_none (p : Option Addr) (cp : Nat) (w : World) : Calls Yba.prog 9 #[.slice p 0 cp, .func (.func 17) #[] #[]] w fun e w' => e = .returned (.tuple #[]) ∧ w' = w := by
  have h := AnyF.slices_SortFunc_none Yba.sortAn p cp (.func (.func 17) #[] #[]) w
  change Calls Yba.prog 9 _ _ _ at h
  exact h
theorem pmap_valN {p : An2 → Prop} : ∀ (L : List An2) (h : ∀ x ∈ L, p x), (L.pmap (fun x hx => (⟨x, hx⟩ : {x : An2 // p x})) h).map Subtype.val = L
  | [], _ => rfl
  | x :: L, h => by simp [List.map_pmap]
theorem flat_valN {p : An2 → Prop} (l : List {x : An2 // p x}) : l.flatMap (fun x => encN x.1) = (l.map Subtype.val).flatMap encN := by
  induction l with
  | nil => rfl
  | cons x l ih => simp [ih]
theorem Good.keep {w w' : World} {x : An2} {g : Nat} {cs : Array Value} (h : Good w x) (t : At1 g w w') (hg : w.heap[g]? = some (.cells cs 32 (0, 0))) : Good w' x :=
  ⟨(t.block _ (hlt h.1) (tag_ne h.1 hg (by decide))).trans h.1, h.2⟩
theorem sort_an2 (g cp base : Nat) (L : List An2) (w : World) (h0 : 0 < L.length) (hn : L.length ≤ 65536) (hA : AnsN w base (.slice (some ⟨g, 0, none⟩) L.length cp) L) :
    Calls Yba.prog 9 #[.slice (some ⟨g, 0, none⟩) L.length cp, .func (.func 17) #[] #[]] w fun e w' => e = .returned (.tuple #[]) ∧ ∃ L' : List An2, L'.Perm L ∧ L'.Pairwise (fun x y => ¬ cmpN (kn y.k0) (kn x.k0) < 0) ∧ AnsN w' base (.slice (some ⟨g, 0, none⟩) L.length cp) L' ∧ At1 g w w' := by
  have eg : ∀ args w, (callFunc 17 args).run Yba.prog w = .ok (.enter 17 args) w := enters_of Yba.func17 (by kernel_rfl) rfl
  obtain ⟨x0, hx0⟩ : ∃ x, x ∈ L := ⟨L[0], List.getElem_mem h0⟩
  haveI : Inhabited {x : An2 // Good w x} := ⟨⟨x0, (hA.items x0 hx0).1⟩⟩
  have hI : ∀ x ∈ L, Good w x := fun x hx => (hA.items x hx).1
  obtain ⟨l, hl⟩ : ∃ l : List {x : An2 // Good w x}, l.map Subtype.val = L := ⟨_, pmap_valN L hI⟩
  have hll : l.length = L.length := by rw [← hl]; simp
  have hk : ∀ x : {x : An2 // Good w x}, (encN x.1).length = 4 := fun _ => rfl
  have hrow : w.ownsRow base 32 4 (.slice (some ⟨g, 0, none⟩) L.length cp) L.length (l.toArray.toList.flatMap fun x => encN x.1) := by
    have h := hA.row
    rw [← hl] at h
    rw [flat_valN, ← hl]
    simpa using h
  obtain ⟨cs, hcs⟩ := own_tag hA.row (k := g) rfl
  have hcmp : CmpLays Yba.prog 17 #[] (fun x : {x : An2 // Good w x} => encN x.1) 4 (fun x y => cmpN (kn x.1.k0) (kn y.1.k0)) g 0 l.toArray.size w := by
    intro m os dk hdk x y
    have hat := (own_sorted (m := m) (os := os) (d := dk) hk hrow (by rw [hdk]; simpa using hll)).2
    have ix := x.2.keep hat hcs
    have iy := y.2.keep hat hcs
    exact cmp17 x.1 y.1 _ ix.1 iy.1 ix.2 iy.2
  have hH := own_holdsK (e := 32) (base := base) (n := L.length) (cp := cp) hk hrow (by simpa using hll)
  have hb : g < w.heap.size := (hA.row.lt g rfl).2
  have hcon := AnyQ.slices_SortFunc Yba.sortAn 4 Yba.isAgg32 Yba.sizeOf32 (fun x : {x : An2 // Good w x} => encN x.1) hk (fun x v hv => encN_one x.1 v hv) (fun x y => cmpN (kn x.1.k0) (kn y.1.k0)) ((cmpN_three.on fun x : {x : An2 // Good w x} => kn x.1.k0).swo) 17 #[] g 0 cp l.toArray w eg hcmp hH hb (by simp; omega)
  change Calls Yba.prog 9 _ _ _ at hcon
  have e : l.toArray.size = L.length := by simpa using hll
  rw [e] at hcon
  refine hcon.mono ?_
  rintro e w' ⟨rfl, d', m, os, hp, hs, rfl⟩
  have hp' : PermIn 0 l.toArray.size l.toArray d' := by simpa [hll] using hp
  obtain ⟨h1, h2⟩ := perm_of hp'
  have hsz : d'.size = L.length := by simpa [hll] using h1
  have hown := own_sorted (m := m) (os := os) (d := d') hk hrow hsz
  have hperm : (d'.toList.map Subtype.val).Perm L := by
    rw [← hl]
    exact (by simpa using h2 : d'.toList.Perm l).map _
  refine ⟨rfl, d'.toList.map Subtype.val, hperm, ?_, ⟨?_, fun x hx => ?_⟩, hown.2⟩
  · rw [List.pairwise_map]
    exact sorted_of hsz hs
  · have h := hown.1
    rw [flat_valN] at h
    have el : (d'.toList.map Subtype.val).length = L.length := hperm.length_eq
    rw [el]
    exact h
  · have hx' := hperm.subset hx
    obtain ⟨i1, i2⟩ := hA.items x hx'
    exact ⟨i1.keep hown.2 hcs, i2⟩
/-- Sorted, the two lists agree. -/
theorem agreeN {L M : List An2} (hp : (L.map An2.k0).Perm (M.map An2.k0)) (hL : L.Pairwise (fun x y => ¬ cmpN (kn y.k0) (kn x.k0) < 0)) (hM : M.Pairwise (fun x y => ¬ cmpN (kn y.k0) (kn x.k0) < 0)) (k : Nat) (h1 : k < L.length) (h2 : k < M.length) : cmpN (kn L[k].k0) (kn M[k].k0) = 0 := by
  have p1 : (L.map fun x : An2 => kn x.k0).Pairwise (fun x y => ¬ cmpN y x < 0) := by rw [List.pairwise_map]; exact hL
  have p2 : (M.map fun x : An2 => kn x.k0).Pairwise (fun x y => ¬ cmpN y x < 0) := by rw [List.pairwise_map]; exact hM
  have p3 : (L.map fun x : An2 => kn x.k0).Perm (M.map fun x : An2 => kn x.k0) := by
    have h := hp.map kn
    rw [List.map_map, List.map_map] at h
    exact h
  have e := sorted_unique cmpN_three cmpN_zero _ _ p3 p1 p2
  have e1 : (L.map fun x => kn x.k0)[k]? = (M.map fun x => kn x.k0)[k]? := by rw [e]
  rw [List.getElem?_map, List.getElem?_map, List.getElem?_eq_getElem h1, List.getElem?_eq_getElem h2] at e1
  simp only [Option.map_some, Option.some.injEq] at e1
  rw [e1]
  exact cmpN_three.refl _
theorem AnsN.cells {w : World} {base g cp : Nat} {L : List An2} (h : AnsN w base (.slice (some ⟨g, 0, none⟩) L.length cp) L) (k : Nat) (hk : k < L.length) :
    w.cell? ⟨g, k * 4, none⟩ = some (.string (kB L[k].k)) ∧ w.cell? ⟨g, k * 4 + 1, none⟩ = some (.int .i64 L[k].a) ∧ w.cell? ⟨g, k * 4 + 2, none⟩ = some (.int .i64 L[k].b) ∧ w.cell? ⟨g, k * 4 + 3, none⟩ = some (.slice (some ⟨L[k].g, 0, none⟩) L[k].is.length L[k].is.length) := by
  have hk4 : ∀ x : An2, (encN x).length = 4 := fun _ => rfl
  refine ⟨?_, ?_, ?_, ?_⟩
  · have e := flat_get hk4 L k hk 0 (by omega)
    rw [h.row.cellAt (k * 4) (by omega)]
    exact e
  · have e := flat_get hk4 L k hk 1 (by omega)
    rw [h.row.cellAt (k * 4 + 1) (by omega)]
    exact e
  · have e := flat_get hk4 L k hk 2 (by omega)
    rw [h.row.cellAt (k * 4 + 2) (by omega)]
    exact e
  · have e := flat_get hk4 L k hk 3 (by omega)
    rw [h.row.cellAt (k * 4 + 3) (by omega)]
    exact e
theorem AnsN.at1 {w w' : World} {base g : Nat} {v : Value} {L : List An2} (h : AnsN w base v L) (t : At1 g w w') {cs : Array Value} (hg : w.heap[g]? = some (.cells cs 32 (0, 0))) (hne : v.ownBlock ≠ some g) : AnsN w' base v L :=
  ⟨own_keep h.row (fun b hb => t.block b (h.row.lt b hb).2 (fun e => hne (by rw [hb, e]))), fun x hx => ⟨(h.items x hx).1.keep t hg, (h.items x hx).2⟩⟩
theorem AnsN.below {w w' : World} {base : Nat} {v : Value} {L : List An2} (h : AnsN w base v L) (hb : Below w.heap.size w w') : AnsN w' base v L :=
  ⟨own_keep h.row (fun b hb' => hb.block b (h.row.lt b hb').2), fun x hx => ⟨⟨(hb.block _ (hlt (h.items x hx).1.1)).trans (h.items x hx).1.1, (h.items x hx).1.2⟩, (h.items x hx).2⟩⟩
end Go.Proofs.Ybulkaggi.BM

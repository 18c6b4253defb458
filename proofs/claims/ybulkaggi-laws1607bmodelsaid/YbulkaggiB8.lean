import Derived.Test.YbulkaggiB7
import Derived.Test.YbulkaggiE6
namespace Go.Proofs.Ybulkaggi.BM
open Go.RowKit Go.Proofs.Ybulkaggi Go.Sort Go.Shelf Go.Lib
open Go.Proofs.Ybulkaggi.CE (hlt tag_ne)
set_option linter.unusedVariables false
set_option maxRecDepth 100000

shelf_lay_g SlLaysF.n6 Slsf 6 at Yba 57 as Yba.sortInt
shelf_lay_g SlLaysF0.n6 Slsf 6 at Yba 57 as Yba.sortInt0

def zI (z : Nat) : Value := .int .i64 (z : Int)
theorem zI_one : OneCell zI := fun x => rfl
section
variable {α : Type} {enc : α → Value}
theorem own_holds1 [Inhabited α] {w : World} {g n cp base : Nat} {e : TypeId} {d : Array α} (ho : w.ownsRow base e 1 (.slice (some ⟨g, 0, none⟩) n cp) n (d.toList.map enc)) (hn : d.size = n) : Holds enc w g 0 d := by
  intro j hj
  refine ⟨?_, ho.frozenAt _⟩
  rw [Nat.zero_add, ho.cellAt j (by omega), List.getElem?_map, Array.getElem?_toList, Array.getElem?_eq_getElem hj, getElem!_pos _ j hj]
  rfl
theorem own_sorted1 [Inhabited α] {w : World} {g n cp base m : Nat} {e : TypeId} {xs : List Value} {d : Array α} {os : Array Obj} (ho : w.ownsRow base e 1 (.slice (some ⟨g, 0, none⟩) n cp) n xs) (hn : d.size = n) :
    (sortWorld enc w g 0 m d os).ownsRow base e 1 (.slice (some ⟨g, 0, none⟩) n cp) n (d.toList.map enc) ∧ At1 g w (sortWorld enc w g 0 m d os) := by
  rcases ho.2 with ⟨h', _⟩ | ⟨g2, cap, cur, h', hb, hg, hnc, hcm, hcs, htake⟩
  · simp at h'
  · simp only [Value.slice.injEq, Option.some.injEq, Addr.mk.injEq, and_true, true_and] at h'
    obtain ⟨rfl, rfl⟩ := h'
    have hlt := (Array.getElem?_eq_some_iff.1 hg).1
    have hb' : (putRow enc (Sort.ahead w m) g 0 d).heap[g]? = some (.cells (putCells enc 0 d cur) e (0, 0)) := by
      unfold putRow mapBlock
      simp only [Array.getElem?_modify, if_true]
      show Option.map _ (w.heap[g]?) = _
      rw [hg]; rfl
    have hsz : (putRow enc (Sort.ahead w m) g 0 d).heap.size = w.heap.size := by
      unfold putRow mapBlock
      simp [Sort.ahead]
    refine ⟨⟨by simp [hn], .inr ⟨g, cp, putCells enc 0 d cur, rfl, hb, ?_, hnc, hcm, by simpa [putCells] using hcs, ?_⟩⟩, ⟨rfl, rfl, rfl, ?_, ?_⟩⟩
    · unfold sortWorld
      rw [heap_grow_old _ _ (by rw [hsz]; exact hlt)]
      exact hb'
    · apply List.ext_getElem?
      intro t
      rw [List.getElem?_take]
      by_cases ht : t < n * 1
      · have hc : t < cur.size := by omega
        have hf : t < d.size := by omega
        rw [if_pos ht, Array.getElem?_toList, List.getElem?_map, Array.getElem?_toList, Array.getElem?_eq_getElem hf]
        simp only [putCells, Array.getElem?_mapIdx, Array.getElem?_eq_getElem hc, Option.map_some]
        rw [if_pos ⟨Nat.zero_le _, by rw [Nat.zero_add]; exact hf⟩, Nat.sub_zero, getElem!_pos _ t hf]
      · rw [if_neg ht, List.getElem?_eq_none (by simp [hn]; omega)]
    · unfold sortWorld
      simp [hsz]
    · intro x hx hne
      unfold sortWorld
      rw [heap_grow_old _ _ (by rw [hsz]; exact hx)]
      unfold putRow mapBlock
      simp only [Array.getElem?_modify, if_neg (Ne.symm hne)]
      rfl
end

/-! ### The order of the accesses -/
def opD (L : List O3) (p : Nat) : O3 := L.getD p (3, 0, 0)
def cmpA (L : List O3) (p q : Nat) : Int := orI (cmpI ((opD L p).2.2 : Nat) ((opD L q).2.2 : Nat)) (orI (cmpI ((opD L p).2.1 : Nat) ((opD L q).2.1 : Nat)) (cmpI (p : Nat) (q : Nat)))
theorem cmpA_three (L : List O3) : Cmp3 (cmpA L) := Cmp3.lex (cmpI_three fun p : Nat => ((opD L p).2.2 : Nat)) (Cmp3.lex (cmpI_three fun p : Nat => ((opD L p).2.1 : Nat)) (cmpI_three fun p : Nat => (p : Int)))
theorem cmp_its {i j : Nat} (hi : i < 3) (hj : j < 3) : Lib.compareBytes (itS i).data.toList (itS j).data.toList = cmpI (i : Nat) (j : Nat) := by
  rcases (by omega : i = 0 ∨ i = 1 ∨ i = 2) with rfl | rfl | rfl <;> rcases (by omega : j = 0 ∨ j = 1 ∨ j = 2) with rfl | rfl | rfl <;> decide
def Acc (L : List O3) (p : Nat) : Prop := p < L.length ∧ (opD L p).1 ≤ 2
theorem cmpO_acc {L : List O3} (ok : ∀ i (h : i < L.length), OkO L[i]) {p q : Nat} (hp : Acc L p) (hq : Acc L q) : cmpO L p q = cmpA L p q := by
  have e : ∀ r, Acc L r → itB (L.getD r (3, 0, 0)) = itS (opD L r).2.2 ∧ (opD L r).2.2 < 3 := fun r hr => by
    have o := ok r hr.1
    rw [← getD_at hr.1] at o
    have h2 := hr.2
    unfold opD at h2
    unfold itB opD
    rw [if_neg (by omega)]
    exact ⟨rfl, o.i⟩
  obtain ⟨e1, l1⟩ := e p hp
  obtain ⟨e2, l2⟩ := e q hq
  unfold cmpO cmpA
  rw [e1, e2, cmp_its l1 l2]
  rfl

theorem pmap_valP {p : Nat → Prop} : ∀ (L : List Nat) (h : ∀ x ∈ L, p x), (L.pmap (fun x hx => (⟨x, hx⟩ : {x : Nat // p x})) h).map Subtype.val = L
  | [], _ => rfl
  | x :: L, h => by simp [List.map_pmap]

theorem sort_pos (gp cp base g n c bx : Nat) (P : List Nat) (L : List O3) (w : World) (ho : w.ownsRow base 3 1 (.slice (some ⟨gp, 0, none⟩) P.length cp) P.length (P.map zI)) (h0 : 0 < P.length) (hlen : P.length ≤ 256) (hP : ∀ p ∈ P, Acc L p)
    (hop : OpsAt w g L) (hn : L.length = n) (hb : w.cell? ⟨bx, 0, none⟩ = some (.slice (some ⟨g, 0, none⟩) n c)) (lg : g < w.heap.size) (lb : bx < w.heap.size) (ng : g ≠ gp) (nb : bx ≠ gp) :
    Calls Yba.prog 57 #[.slice (some ⟨gp, 0, none⟩) P.length cp, .func (.func 58) #[] #[.pointer (some ⟨bx, 0, none⟩)]] w fun e w' => e = .returned (.tuple #[]) ∧ ∃ P' : List Nat, P'.Perm P ∧ P'.Pairwise (fun p q => ¬ cmpA L q p < 0) ∧ w'.ownsRow base 3 1 (.slice (some ⟨gp, 0, none⟩) P.length cp) P.length (P'.map zI) ∧ At1 gp w w' := by
  have eg : ∀ args w, (callFunc 58 args).run Yba.prog w = .ok (.enter 58 args) w := enters_of Yba.func58 (by kernel_rfl) rfl
  obtain ⟨x0, hx0⟩ : ∃ x, x ∈ P := ⟨P[0], List.getElem_mem h0⟩
  haveI : Inhabited {x : Nat // Acc L x} := ⟨⟨x0, hP x0 hx0⟩⟩
  obtain ⟨l, hl⟩ : ∃ l : List {x : Nat // Acc L x}, l.map Subtype.val = P := ⟨_, pmap_valP P hP⟩
  have hll : l.length = P.length := by rw [← hl]; simp
  have hmap : ∀ l : List {x : Nat // Acc L x}, l.map (fun x => zI x.1) = (l.map Subtype.val).map zI := fun l => by simp
  have hrow : w.ownsRow base 3 1 (.slice (some ⟨gp, 0, none⟩) P.length cp) P.length (l.toArray.toList.map fun x => zI x.1) := by
    rw [List.toList_toArray, hmap, hl]
    exact ho
  have hcmp : CmpLays1 Yba.prog 58 #[.pointer (some ⟨bx, 0, none⟩)] (fun x : {x : Nat // Acc L x} => zI x.1) (fun x y => cmpA L x.1 y.1) gp 0 l.toArray.size w := by
    intro m os dk hdk x y
    have hat := (own_sorted1 (enc := fun x : {x : Nat // Acc L x} => zI x.1) (m := m) (os := os) (d := dk) hrow (by rw [hdk]; simpa using hll)).2
    have c1 := byItem_any (c := c) (bx := bx) (p := x.1) (q := y.1) (sortWorld (fun x : {x : Nat // Acc L x} => zI x.1) w gp 0 m dk os) (hop.keep (hat.block g lg ng)) hn (by rw [← hn]; exact x.2.1) (by rw [← hn]; exact y.2.1) ((World.cell?_of_block (a := ⟨bx, 0, none⟩) (hat.block bx lb nb)).trans hb)
    rw [cmpO_acc hop.ok x.2 y.2] at c1
    exact c1
  have hH := own_holds1 (e := 3) (base := base) (n := P.length) (cp := cp) hrow (by simpa using hll)
  have hb' : gp < w.heap.size := (ho.lt gp rfl).2
  have hcon := Any.slices_SortFunc Yba.sortInt (fun x : {x : Nat // Acc L x} => zI x.1) (fun x => rfl) (fun x y => cmpA L x.1 y.1) (((cmpA_three L).on fun x : {x : Nat // Acc L x} => x.1).swo) 58 #[.pointer (some ⟨bx, 0, none⟩)] gp 0 cp l.toArray w eg hcmp hH hb' (by simp; omega)
  change Calls Yba.prog 57 _ _ _ at hcon
  have e : l.toArray.size = P.length := by simpa using hll
  rw [e] at hcon
  refine hcon.mono ?_
  rintro e w' ⟨rfl, d', m, os, hp, hs, rfl⟩
  have hp' : PermIn 0 l.toArray.size l.toArray d' := by simpa [hll] using hp
  obtain ⟨h1, h2⟩ := perm_of hp'
  have hsz : d'.size = P.length := by simpa [hll] using h1
  have hown := own_sorted1 (enc := fun x : {x : Nat // Acc L x} => zI x.1) (m := m) (os := os) (d := d') hrow hsz
  have hperm : (d'.toList.map Subtype.val).Perm P := by
    rw [← hl]
    exact (by simpa using h2 : d'.toList.Perm l).map _
  refine ⟨rfl, d'.toList.map Subtype.val, hperm, ?_, ?_, hown.2⟩
  · rw [List.pairwise_map]
    exact sorted_of hsz hs
  · have h := hown.1
    rw [hmap] at h
    exact h
end Go.Proofs.Ybulkaggi.BM

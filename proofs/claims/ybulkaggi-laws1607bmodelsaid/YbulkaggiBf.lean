import Derived.Test.YbulkaggiBb
import Derived.Test.YbulkaggiCe
import Derived.Test.YbulkaggiE9
namespace Go.Proofs.Ybulkaggi.BM
open Go.RowKit Go.Proofs.Ybulkaggi Go.Sort Go.Shelf Go.Lib
open Go.Proofs.Ybulkaggi.CE (hlt tag_ne grown_alloc grown_drewN)
set_option linter.unusedVariables false
set_option maxRecDepth 100000

shelf_lay_g SlLaysF0.n6 Slsf 6 at Yba 62 as Yba.sortRun

def encR (r : RunV) : List Value := [Pp r.tb, .slice (some ⟨r.g, r.o, none⟩) r.A.length r.c]
theorem encR_one : ∀ x : RunV, ∀ v ∈ encR x, v.oneCell' = true := fun x v hv => by
  simp [encR] at hv
  rcases hv with rfl | rfl <;> rfl

theorem by_first (B B' : Nat) (s s' : Value) (f f' : Int) (W : World) (c1 : W.cell? ⟨B, 1, none⟩ = some (.int .i64 f)) (c2 : W.cell? ⟨B', 1, none⟩ = some (.int .i64 f')) (l1 : B < W.heap.size) (l2 : B' < W.heap.size) :
    Calls Yba.prog 63 #[.agg #[Pp B, s], .agg #[Pp B', s']] W fun e w' => e = .returned (.int .i64 (cmpI f f')) ∧ ∃ q os', w' = grow (W.drewN q) os' := by
  have HG : Hid (∃ os', (W.alloc (.cells #[Pp B, s] 94)).alloc (.cells #[Pp B', s'] 94) = grow (W.drewN 0) os') := ⟨_, by rw [alloc_eq_grow, alloc_eq_grow, grow_grow]; rfl⟩
  go_enter Yba.func63, Yba.ntmps63
  go_upto_region 1 with fail
  obtain ⟨e0, e1, e2, e3⟩ : ((W.alloc (.cells #[Pp B, s] 94)).alloc (.cells #[Pp B', s'] 94)).cell? ⟨W.heap.size, 0, none⟩ = some (Pp B) ∧ ((W.alloc (.cells #[Pp B, s] 94)).alloc (.cells #[Pp B', s'] 94)).cell? ⟨W.heap.size + 1, 0, none⟩ = some (Pp B') ∧ ((W.alloc (.cells #[Pp B, s] 94)).alloc (.cells #[Pp B', s'] 94)).cell? ⟨B, 1, none⟩ = some (.int .i64 f) ∧ ((W.alloc (.cells #[Pp B, s] 94)).alloc (.cells #[Pp B', s'] 94)).cell? ⟨B', 1, none⟩ = some (.int .i64 f') := by
    obtain ⟨h1, h2⟩ := two_new W (.cells #[Pp B, s] 94) (.cells #[Pp B', s'] 94)
    have k : ∀ b, b < W.heap.size → ((W.alloc (.cells #[Pp B, s] 94)).alloc (.cells #[Pp B', s'] 94)).heap[b]? = W.heap[b]? := fun b hb => (Below.heap_alloc _ _ _ (by simp; omega)).trans (Below.heap_alloc _ _ _ hb)
    exact ⟨(cell_at h1 0).trans rfl, (cell_at h2 0).trans rfl, (World.cell?_of_block (k B l1)).trans c1, (World.cell?_of_block (k B' l2)).trans c2⟩
  generalize (W.alloc (.cells #[Pp B, s] 94)).alloc (.cells #[Pp B', s'] 94) = X at *
  go_region_held3 (fun x => x.cell? ⟨W.heap.size, 0, none⟩ = some (Pp B) ∧ x.cell? ⟨W.heap.size + 1, 0, none⟩ = some (Pp B') ∧ x.cell? ⟨B, 1, none⟩ = some (.int .i64 f) ∧ x.cell? ⟨B', 1, none⟩ = some (.int .i64 f')) (go_keep)
    (first | (go_at_call 12; refine (cmp_int _ _ _).mono ?_; rintro e w' ⟨rfl, hw⟩; obtain rfl := hw.symm))
  all_goals (try go_wp2_with fail)
  all_goals go_ret
  obtain ⟨os, ho⟩ := HG.out
  subst ho
  exact ⟨rfl, 1, _, rfl⟩

/-- The run's transaction lies in the world, with its first position. -/
def RunOk (w : World) (F : Nat → Nat) (r : RunV) : Prop := ∃ cs, w.heap[r.tb]? = some (.cells cs 99 (0, 0)) ∧ cs[1]? = some (.int .i64 (F r.tb : Nat))
theorem RunOk.lt {w : World} {F : Nat → Nat} {r : RunV} (h : RunOk w F r) : r.tb < w.heap.size := by
  obtain ⟨cs, h, _⟩ := h
  exact hlt h
theorem pmap_valR {p : RunV → Prop} : ∀ (L : List RunV) (h : ∀ x ∈ L, p x), (L.pmap (fun x hx => (⟨x, hx⟩ : {x : RunV // p x})) h).map Subtype.val = L
  | [], _ => rfl
  | x :: L, h => by simp [List.map_pmap]
theorem flat_valR {p : RunV → Prop} (l : List {x : RunV // p x}) : l.flatMap (fun x => encR x.1) = (l.map Subtype.val).flatMap encR := by
  induction l with
  | nil => rfl
  | cons x l ih => simp [ih]
theorem sort_run_none (p : Option Addr) (cp : Nat) (fv : Value) (w : World) : Calls Yba.prog 62 #[.slice p 0 cp, fv] w fun e w' => e = .returned (.tuple #[]) ∧ w' = w := by
  have h := AnyF.slices_SortFunc_none Yba.sortRun p cp fv w
  change Calls Yba.prog 62 _ _ _ at h
  exact h
def cmpF (F : Nat → Nat) (x y : RunV) : Int := cmpI (F x.tb : Nat) (F y.tb : Nat)
theorem sort_run (g cp base : Nat) (L : List RunV) (F : Nat → Nat) (w : World) (h0 : 0 < L.length) (hn : L.length ≤ 256) (ho : w.ownsRow base 94 2 (.slice (some ⟨g, 0, none⟩) L.length cp) L.length (L.flatMap encR)) (hI : ∀ x ∈ L, RunOk w F x) :
    Calls Yba.prog 62 #[.slice (some ⟨g, 0, none⟩) L.length cp, .func (.func 63) #[] #[]] w fun e w' => e = .returned (.tuple #[]) ∧ ∃ L' : List RunV, L'.Perm L ∧ L'.Pairwise (fun x y => ¬ cmpF F y x < 0) ∧ w'.ownsRow base 94 2 (.slice (some ⟨g, 0, none⟩) L.length cp) L.length (L'.flatMap encR) ∧ At1 g w w' := by
  have eg : ∀ args w, (callFunc 63 args).run Yba.prog w = .ok (.enter 63 args) w := enters_of Yba.func63 (by kernel_rfl) rfl
  obtain ⟨x0, hx0⟩ : ∃ x, x ∈ L := ⟨L[0], List.getElem_mem h0⟩
  haveI : Inhabited {x : RunV // RunOk w F x} := ⟨⟨x0, hI x0 hx0⟩⟩
  obtain ⟨l, hl⟩ : ∃ l : List {x : RunV // RunOk w F x}, l.map Subtype.val = L := ⟨_, pmap_valR L hI⟩
  have hll : l.length = L.length := by rw [← hl]; simp
  have hk : ∀ x : {x : RunV // RunOk w F x}, (encR x.1).length = 2 := fun _ => rfl
  have hrow : w.ownsRow base 94 2 (.slice (some ⟨g, 0, none⟩) L.length cp) L.length (l.toArray.toList.flatMap fun x => encR x.1) := by
    have h := ho
    rw [← hl] at h
    rw [flat_valR, ← hl]
    simpa using h
  obtain ⟨cs, hcs⟩ := own_block ho (k := g) rfl
  have hcmp : CmpLays Yba.prog 63 #[] (fun x : {x : RunV // RunOk w F x} => encR x.1) 2 (fun x y => cmpF F x.1 y.1) g 0 l.toArray.size w := by
    intro m os dk hdk x y
    have hat := (own_sorted (m := m) (os := os) (d := dk) hk hrow (by rw [hdk]; simpa using hll)).2
    have f : ∀ x : {x : RunV // RunOk w F x}, (sortWorldK (fun x : {x : RunV // RunOk w F x} => encR x.1) 2 w g 0 m dk os).cell? ⟨x.1.tb, 1, none⟩ = some (.int .i64 (F x.1.tb : Nat)) ∧ x.1.tb < (sortWorldK (fun x : {x : RunV // RunOk w F x} => encR x.1) 2 w g 0 m dk os).heap.size := fun x => by
      obtain ⟨cs', h1, h2⟩ := x.2
      exact ⟨(cell_at ((hat.block _ (hlt h1) (tag_ne h1 hcs (by decide))).trans h1) 1).trans h2, Nat.lt_of_lt_of_le (hlt h1) hat.size⟩
    exact by_first _ _ _ _ _ _ _ (f x).1 (f y).1 (f x).2 (f y).2
  have hH := own_holdsK (e := 94) (base := base) (n := L.length) (cp := cp) hk hrow (by simpa using hll)
  have hb : g < w.heap.size := (ho.lt g rfl).2
  have hcon := AnyQ.slices_SortFunc Yba.sortRun 2 Yba.isAgg94 Yba.sizeOf94 (fun x : {x : RunV // RunOk w F x} => encR x.1) hk (fun x v hv => encR_one x.1 v hv) (fun x y => cmpF F x.1 y.1) (((cmpI_three fun x : RunV => (F x.tb : Int)).on fun x : {x : RunV // RunOk w F x} => x.1).swo) 63 #[] g 0 cp l.toArray w eg hcmp hH hb (by simp; omega)
  change Calls Yba.prog 62 _ _ _ at hcon
  have e : l.toArray.size = L.length := by simpa using hll
  rw [e] at hcon
  refine hcon.mono ?_
  rintro e w' ⟨rfl, d', m, os, hp, hs, rfl⟩
  have hp' : PermIn 0 l.toArray.size l.toArray d' := by simpa [hll] using hp
  obtain ⟨h1, h2⟩ := perm_of hp'
  have hsz : d'.size = L.length := by simpa [hll] using h1
  have hown := own_sorted (m := m) (os := os) (d := d') hk hrow hsz
  have hperm : (d'.toList.map Subtype.val).Perm L := by
    rw [← hl]
    exact (by simpa using h2 : d'.toList.Perm l).map _
  refine ⟨rfl, d'.toList.map Subtype.val, hperm, ?_, ?_, hown.2⟩
  · rw [List.pairwise_map]
    exact sorted_of hsz hs
  · have h := hown.1
    rw [flat_valR] at h
    exact h

end Go.Proofs.Ybulkaggi.BM

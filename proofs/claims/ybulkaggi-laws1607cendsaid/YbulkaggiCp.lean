import Derived.Test.YbulkaggiCn
namespace Go.Proofs.Ybulkaggi.CE
open Go.RowKit Go.WideMaps Go.Maps
set_option linter.unusedVariables false
set_option maxRecDepth 100000

def zI (z : Nat) : Value := .int .i64 (z : Int)
theorem zI_one : ∀ (l : List Nat), ∀ u ∈ l.map zI, u.oneCell' = true := fun l u hu => by
  obtain ⟨z, _, rfl⟩ := List.mem_map.1 hu
  rfl
abbrev namC : Array Value := #[.string ⟨#[97]⟩, .string ⟨#[98]⟩, .string ⟨#[99]⟩]

/-! ### What holds between two operations of the law -/
structure LI (N T ab nb : Nat) (w0 w : World) (k nx : Nat) (hv : Value) (D0 D : List Nat) (S : St) : Prop where
  rel : Rel N D T w S
  inv : Inv (64 * k) S
  ks : S.ks = S.hs
  l64 : S.ql 64 = S.hs
  sp : S.hs.Pairwise (· < ·)
  lt : ∀ y ∈ S.hs, y < nx
  n64 : nx ≤ 64
  last : S.last = nx
  al : ∀ y, S.al = some y → S.hs = [y]
  um : Um N D0 D w S
  row : w.ownsRow N 3 1 hv S.hs.length (S.hs.map zI)
  hd : ∀ g, hv.ownBlock = some g → g ∈ D0
  nd : nb ∈ D0
  sub : ∀ i ∈ D0, i ∈ D
  abd : ab ∈ D
  abn : ¬ Pd N D0 ab
  ab : AB w ab
  nam : w.heap[nb]? = some (.cells namC 56 (0, 0))
  fr : Fr N [] w0 w

section
variable {N T ab nb k nx : Nat} {w0 w : World} {hv : Value} {D0 D : List Nat} {S : St}
theorem LI.lowD (h : LI N T ab nb w0 w k nx hv D0 D S) : ∀ i, Pd N D0 i → i < w.heap.size := fun i hi => h.rel.low i (by rcases hi with e | e; exact .inl e; exact .inr (h.sub i e))
/-- A new block. -/
theorem LI.alloc (h : LI N T ab nb w0 w k nx hv D0 D S) (o : Obj) : LI N T ab nb w0 (w.alloc o) k nx hv D0 D S where
  rel := h.rel.alloc o
  inv := h.inv
  ks := h.ks
  l64 := h.l64
  sp := h.sp
  lt := h.lt
  n64 := h.n64
  last := h.last
  al := h.al
  um := fun y b e1 e2 => ⟨(h.um y b e1 e2).1, (h.um y b e1 e2).2.1, (h.um y b e1 e2).2.2.keep (Below.heap_alloc w o b (h.rel.low b (.inr (h.um y b e1 e2).1)))⟩
  row := h.row.alloc o
  hd := h.hd
  nd := h.nd
  sub := h.sub
  abd := h.abd
  abn := h.abn
  ab := h.ab.keep (Below.heap_alloc w o ab h.ab.lt)
  nam := (Below.heap_alloc w o nb (hlt h.nam)).trans h.nam
  fr := h.fr.trans (Fr.alloc (fun i hi => h.rel.low i (by rcases hi with e | e; exact .inl e; cases e)) o)
/-- A new block, guarded. -/
theorem LI.allocD (h : LI N T ab nb w0 w k nx hv D0 D S) (o : Obj) : LI N T ab nb w0 (w.alloc o) k nx hv (w.heap.size :: D0) (w.heap.size :: D) S where
  rel := h.rel.newD o
  inv := h.inv
  ks := h.ks
  l64 := h.l64
  sp := h.sp
  lt := h.lt
  n64 := h.n64
  last := h.last
  al := h.al
  um := fun y b e1 e2 => by
    obtain ⟨u1, u2, u3⟩ := h.um y b e1 e2
    have lb : b < w.heap.size := h.rel.low b (.inr u1)
    refine ⟨List.mem_cons_of_mem _ u1, fun e => ?_, u3.keep (Below.heap_alloc w o b lb)⟩
    rcases e with e | e
    · exact u2 (.inl e)
    · rcases List.mem_cons.1 e with e | e
      · omega
      · exact u2 (.inr e)
  row := h.row.alloc o
  hd := fun g e => List.mem_cons_of_mem _ (h.hd g e)
  nd := List.mem_cons_of_mem _ h.nd
  sub := fun i hi => by
    rcases List.mem_cons.1 hi with e | e
    · rw [e]; simp
    · exact List.mem_cons_of_mem _ (h.sub i e)
  abd := List.mem_cons_of_mem _ h.abd
  abn := fun e => by
    have := h.ab.lt
    rcases e with e | e
    · exact h.abn (.inl e)
    · rcases List.mem_cons.1 e with e | e
      · omega
      · exact h.abn (.inr e)
  ab := h.ab.keep (Below.heap_alloc w o ab h.ab.lt)
  nam := (Below.heap_alloc w o nb (hlt h.nam)).trans h.nam
  fr := h.fr.trans (Fr.alloc (fun i hi => h.rel.low i (by rcases hi with e | e; exact .inl e; cases e)) o)
theorem LI.same (h : LI N T ab nb w0 w k nx hv D0 D S) {w' : World} (e : w'.heap = w.heap) (e1 : w'.os = w.os) (e2 : w'.tape = w.tape) (e3 : w'.output = w.output) : LI N T ab nb w0 w' k nx hv D0 D S where
  rel := h.rel.heapEq e
  inv := h.inv
  ks := h.ks
  l64 := h.l64
  sp := h.sp
  lt := h.lt
  n64 := h.n64
  last := h.last
  al := h.al
  um := fun y b a1 a2 => ⟨(h.um y b a1 a2).1, (h.um y b a1 a2).2.1, (h.um y b a1 a2).2.2.keep (by rw [e])⟩
  row := own_keep h.row (fun g hg => by rw [e])
  hd := h.hd
  nd := h.nd
  sub := h.sub
  abd := h.abd
  abn := h.abn
  ab := h.ab.keep (by rw [e])
  nam := by rw [e]; exact h.nam
  fr := h.fr.heapEq e e1 e2 e3
theorem LI.next (h : LI N T ab nb w0 w k nx hv D0 D S) : LI N T ab nb w0 w (k + 1) nx hv D0 D S := { h with inv := h.inv.mono (by omega) }
/-- One is marked as aborted. -/
theorem LI.mark (h : LI N T ab nb w0 w k nx hv D0 D S) {z : Nat} (hz : z < 64) (b : Bool) : LI N T ab nb w0 (w.setCell ⟨ab, z, none⟩ (.bool b)) k nx hv D0 D S where
  rel := h.rel.store h.abd _ _
  inv := h.inv
  ks := h.ks
  l64 := h.l64
  sp := h.sp
  lt := h.lt
  n64 := h.n64
  last := h.last
  al := h.al
  um := fun y c a1 a2 => ⟨(h.um y c a1 a2).1, (h.um y c a1 a2).2.1, (h.um y c a1 a2).2.2.keep (Below.heap_setCell w ⟨ab, z, none⟩ _ c (fun e => by
    simp only at e
    obtain ⟨es, cl, h1⟩ := (h.um y c a1 a2).2.2.at_
    obtain ⟨cs, h2, _⟩ := h.ab
    rw [e, h2] at h1
    cases h1))⟩
  row := own_keep h.row (fun g hg => Below.heap_setCell w ⟨ab, z, none⟩ _ g (fun e => by
    simp only at e
    exact h.abn (.inr (e ▸ h.hd g hg))))
  hd := h.hd
  nd := h.nd
  sub := h.sub
  abd := h.abd
  abn := h.abn
  ab := h.ab.set hz b
  nam := (Below.heap_setCell w ⟨ab, z, none⟩ _ nb (fun e => by simp only at e; exact h.abn (.inr (e ▸ h.nd)))).trans h.nam
  fr := h.fr.trans (Fr.setCell (fun e => h.abn (by rcases e with e | e; exact .inl e; cases e)) _)
theorem LI.umA (h : LI N T ab nb w0 w k nx hv D0 D S) : Um N (ab :: D0) D w S := fun y b e1 e2 => by
  obtain ⟨u1, u2, u3⟩ := h.um y b e1 e2
  refine ⟨u1, fun e => ?_, u3⟩
  rcases e with e | e
  · exact u2 (.inl e)
  · rcases List.mem_cons.1 e with e | e
    · obtain ⟨es, cl, h1⟩ := u3.at_
      obtain ⟨cs, h2, _⟩ := h.ab
      rw [e, h2] at h1
      cases h1
    · exact u2 (.inr e)
theorem LI.subA (h : LI N T ab nb w0 w k nx hv D0 D S) : ∀ i ∈ ab :: D0, i ∈ D := fun i hi => by
  rcases List.mem_cons.1 hi with rfl | hi
  · exact h.abd
  · exact h.sub i hi
theorem LI.asked (h : LI N T ab nb w0 w k nx hv D0 D S) {w1 : World} {D1 : List Nat} {S1 : St} (r : AskRes N (ab :: D0) D T w S (64 * k) w1 D1 S1) : LI N T ab nb w0 w1 (k + 1) nx hv D0 D1 S1 where
  rel := r.rel
  inv := r.inv.mono (by omega)
  ks := by rw [r.ks, r.hs, h.ks]
  l64 := by rw [r.l64, r.hs, h.l64]
  sp := by rw [r.hs]; exact h.sp
  lt := by rw [r.hs]; exact h.lt
  n64 := h.n64
  last := by rw [r.last, h.last]
  al := fun y e => by rw [r.hs]; exact h.al y (r.al ▸ e)
  um := fun y b e1 e2 => ⟨(r.um y b e1 e2).1, fun e => (r.um y b e1 e2).2.1 (by rcases e with e | e; exact .inl e; exact .inr (List.mem_cons_of_mem _ e)), (r.um y b e1 e2).2.2⟩
  row := by rw [r.hs]; exact own_keep h.row (fun g hg => r.fr.block g (.inr (List.mem_cons_of_mem _ (h.hd g hg))))
  hd := h.hd
  nd := h.nd
  sub := fun i hi => r.sub i (h.sub i hi)
  abd := r.sub ab h.abd
  abn := h.abn
  ab := h.ab.keep (r.fr.block ab (.inr (by simp)))
  nam := (r.fr.block nb (.inr (List.mem_cons_of_mem _ h.nd))).trans h.nam
  fr := h.fr.trans (r.fr.mono (fun i hi => by cases hi))
end

/-- A row's block is new, or as it was. -/
theorem LI.begun {N T ab nb k nx : Nat} {w0 w : World} {hv : Value} {D0 D : List Nat} {S : St} (h : LI N T ab nb w0 w k nx hv D0 D S) {w1 w2 : World} {S1 : St} (r : BeginRes N D T w S nx (64 * k) w1 S1) (hnx : nx < 64) {v' : Value} {o : Obj}
    (ho : w2.ownsRow N 3 1 v' (S.hs.length + 1) (S.hs.map zI ++ [zI nx])) (hg : (w1.alloc o).grownBy w2 hv.ownBlock) (hb : v'.ownBlock = hv.ownBlock ∨ v'.ownBlock = some (w1.alloc o).heap.size) :
    ∃ D0' D' S', LI N T ab nb w0 w2 (k + 1) (nx + 1) v' D0' D' S' := by
  have r1 : Rel N D T (w1.alloc o) S1 := r.rel.alloc o
  have kb : ∀ i, i < (w1.alloc o).heap.size → some i ≠ hv.ownBlock → w2.heap[i]? = (w1.alloc o).heap[i]? := hg.block
  have hD : ∀ g, hv.ownBlock = some g → g ∈ D := fun g e => h.sub g (h.hd g e)
  have r2 : Rel N D T w2 S1 := r1.outside hg.size (fun i hi hn => kb i hi (fun e => hn (.inr (hD i e.symm))))
  have lab : ab < w1.heap.size := Nat.lt_of_lt_of_le h.ab.lt r.fr.size
  have lnb : nb < w1.heap.size := Nat.lt_of_lt_of_le (hlt h.nam) r.fr.size
  have eab : w2.heap[ab]? = w.heap[ab]? := by
    rw [kb ab (by simp; omega) (fun e => h.abn (.inr (h.hd ab e.symm))), Below.heap_alloc w1 o ab lab]
    exact r.fr.block ab (.inr h.abd)
  have enb : w2.heap[nb]? = w.heap[nb]? := by
    have tg := h.nam
    rw [kb nb (by simp; omega) (fun e => by
      obtain ⟨cs, hc⟩ := own_tag h.row e.symm
      exact tag_ne tg hc (by decide) rfl), Below.heap_alloc w1 o nb lnb]
    exact r.fr.block nb (.inr (h.sub nb h.nd))
  have sp1 : S1.hs.Pairwise (· < ·) := by
    rw [r.hs, List.pairwise_append]
    exact ⟨h.sp, by simp, fun a ha b hb => by simp at hb; subst hb; exact h.lt a ha⟩
  have f2 : Fr N [] w0 w2 := (h.fr.trans (r.fr.mono (fun i hi => by cases hi))).trans ((Fr.alloc (fun i hi => r.rel.low i (by rcases hi with e | e; exact .inl e; cases e)) o).trans (Fr.grown (fun i hi => r1.low i (by rcases hi with e | e; exact .inl e; cases e)) hg (fun i e hp => by
    rcases hp with hp | hp
    · have := own_base h.row e
      omega
    · cases hp)))
  have al1 : ∀ y, S1.al = some y → S1.hs = [y] ∧ y = nx := fun y e => by
    rw [r.al] at e
    by_cases e0 : S.hs = []
    · rw [if_pos e0] at e
      cases e
      rw [r.hs, e0]
      exact ⟨rfl, rfl⟩
    · rw [if_neg e0] at e
      cases e
  have um1 : ∀ (E F : List Nat), Um N E F w2 S1 := fun E F y b e1 e2 => by
    obtain ⟨_, rfl⟩ := al1 y e1
    rw [r.M] at e2
    cases e2
  have row1 : w2.ownsRow N 3 1 v' S1.hs.length (S1.hs.map zI) := by
    rw [r.hs]
    simpa using ho
  rcases hb with hb | hb
  · exact ⟨D0, D, S1, r2, r.inv.mono (by omega), by rw [r.ks, r.hs, h.ks], by rw [r.l64, r.hs, h.l64], sp1, fun y hy => by
      rw [r.hs] at hy
      rcases List.mem_append.1 hy with hy | hy
      · have := h.lt y hy; omega
      · simp at hy; omega, by omega, r.last, fun y e => (al1 y e).1, um1 _ _, row1, fun g hg => h.hd g (hb ▸ hg), h.nd, h.sub, h.abd, h.abn, h.ab.keep eab, enb.trans h.nam, f2⟩
  · have lg : (w1.alloc o).heap.size < w2.heap.size := (ho.lt _ hb).2
    refine ⟨(w1.alloc o).heap.size :: D0, (w1.alloc o).heap.size :: D, S1, r2.guard _ lg (r1.notNew (Nat.le_refl _)), r.inv.mono (by omega), by rw [r.ks, r.hs, h.ks], by rw [r.l64, r.hs, h.l64], sp1, fun y hy => by
      rw [r.hs] at hy
      rcases List.mem_append.1 hy with hy | hy
      · have := h.lt y hy; omega
      · simp at hy; omega, by omega, r.last, fun y e => (al1 y e).1, um1 _ _, row1, fun g hg => ?_, List.mem_cons_of_mem _ h.nd, fun i hi => ?_, List.mem_cons_of_mem _ h.abd, fun e => ?_, h.ab.keep eab, enb.trans h.nam, f2⟩
    · rw [hb] at hg
      cases hg
      simp
    · rcases List.mem_cons.1 hi with rfl | hi
      · simp
      · exact List.mem_cons_of_mem _ (h.sub i hi)
    · rcases e with e | e
      · exact h.abn (.inl e)
      · rcases List.mem_cons.1 e with e | e
        · rw [e] at lab
          simp at lab
          omega
        · exact h.abn (.inr e)
theorem LI.ended {N T ab nb k nx : Nat} {w0 w : World} {hv : Value} {D0 D : List Nat} {S : St} (h : LI N T ab nb w0 w k nx hv D0 D S) {w1 w2 : World} {S1 : St} {x i g n cap : Nat} (hi : i < S.hs.length) (hx : S.hs[i] = x) (r : CheckRes N D0 D T w S x (64 * k) ab w1 S1)
    (hvs : hv = .slice (some ⟨g, 0, none⟩) n cap) (ho : w2.ownsRow N 3 1 (.slice (some ⟨g, 0, none⟩) (n - 1) cap) (n - 1) ((S.hs.map zI).eraseIdx i)) (hn : S.hs.length = n) (ha : At1 g w1 w2) :
    LI N T ab nb w0 w2 (k + 1) nx (.slice (some ⟨g, 0, none⟩) (n - 1) cap) D0 D S1 := by
  have hgD0 : g ∈ D0 := h.hd g (by rw [hvs]; rfl)
  have nod : S.hs.Nodup := nod_of h.sp
  have her : S.hs.eraseIdx i = S.hs.erase x := by rw [← hx]; exact erase_at S.hs i hi nod
  have hlen : (S.hs.erase x).length = n - 1 := by rw [← her, List.length_eraseIdx_of_lt hi, hn]
  have tg : ∃ cs, w.heap[g]? = some (.cells cs 3 (0, 0)) := own_tag h.row (by rw [hvs]; rfl)
  obtain ⟨cs, tg⟩ := tg
  have gN : ¬ g < N := fun e => by have := own_base h.row (k := g) (by rw [hvs]; rfl); omega
  refine ⟨r.rel.outside (by rw [ha.size]; exact Nat.le_refl _) (fun i hi hn => ha.block i (fun e => hn (.inr (h.sub i (e ▸ hgD0))))), r.inv.mono (by omega), by rw [r.ks, r.hs], by rw [r.l64, r.hs], by rw [r.hs]; exact h.sp.sublist List.erase_sublist, fun y hy => h.lt y (List.mem_of_mem_erase (r.hs ▸ hy)), h.n64, by rw [r.last, h.last], (fun y e => by rw [r.al] at e; cases e), (fun y b e => by rw [r.al] at e; cases e), ?_, (fun g' e => by cases e; exact hgD0), h.nd, h.sub, h.abd, h.abn, r.ab.keep (ha.block ab (fun e => h.abn (.inr (e ▸ hgD0)))), ?_, ?_⟩
  · rw [r.hs, hlen, ← her, ← map_eraseIdx]
    exact ho
  · rw [ha.block nb (tag_ne h.nam tg (by decide)), r.fr.block nb (.inr h.nd)]
    exact h.nam
  · exact (h.fr.trans (r.fr.mono (fun i hi => by cases hi))).trans ⟨ha.os, ha.tape, ha.output, by rw [ha.size]; exact Nat.le_refl _, fun i hi => ha.block i (fun e => by
      rcases hi with hi | hi
      · exact gN (e ▸ hi)
      · cases hi)⟩
/-- One that runs, by its place. -/
theorem LI.pick {N T ab nb k nx : Nat} {w0 w : World} {hv : Value} {D0 D : List Nat} {S : St} (h : LI N T ab nb w0 w k nx hv D0 D S) {i x : Nat} (hi : i < S.hs.length) (hx : S.hs[i] = x) :
    ∃ g cap b, hv = .slice (some ⟨g, 0, none⟩) S.hs.length cap ∧ S.tm = some b ∧ w.cell? ⟨g, i, none⟩ = some (.int .i64 (x : Int)) ∧ w.cell? ⟨T, 2, none⟩ = some (.map (some b)) ∧ (Instr.lookup 49 (.map (some b)) (.int .i64 (x : Int)) false).run Yba.prog w = .ok (Pp (S.tb x)) w ∧ w.cell? ⟨S.tb x, 4, none⟩ = some (po ((S.wt x).map (·.1))) ∧ x ∈ S.hs ∧ x < 64 ∧ (S.al = none ∨ S.al = some x) := by
  have hm : x ∈ S.hs := by rw [← hx]; exact List.getElem_mem hi
  have h64 := h.inv.lt _ hm
  obtain ⟨b, hb⟩ : ∃ b, S.tm = some b := by
    cases e : S.tm with
    | none =>
      have e1 := h.rel.m.tm0 e
      rw [h.ks] at e1
      rw [e1] at hm
      cases hm
    | some b => exact ⟨b, rfl⟩
  rcases h.row.2 with ⟨_, h0⟩ | ⟨g, cap, cur, e, _, hg, _⟩
  · omega
  · have o := h.row
    rw [e] at o
    refine ⟨g, cap, b, e, hb, ?_, by rw [cell_at h.rel.t.at_, hb]; rfl, (h.rel.m.ftm b hb).look (by omega) (by rw [h.ks]; exact hm), (cell_at (h.rel.x.at_ _ hm) 4).trans rfl, hm, h64, ?_⟩
    · rw [o.cellAt i (by omega), ← hx]
      simp [zI, hi]
    · cases e : S.al with
      | none => exact .inl rfl
      | some y =>
        have e1 := h.al y e
        rw [e1] at hm
        simp at hm
        exact .inr (by rw [hm])
theorem nam_at {w : World} {nb : Nat} (h : w.heap[nb]? = some (.cells namC 56 (0, 0))) {j : Nat} (hj : j < 3) : w.cell? ⟨nb, j, none⟩ = some (.string (nm j)) := by
  rw [cell_at h]
  rcases (by omega : j = 0 ∨ j = 1 ∨ j = 2) with rfl | rfl | rfl <;> rfl
end Go.Proofs.Ybulkaggi.CE

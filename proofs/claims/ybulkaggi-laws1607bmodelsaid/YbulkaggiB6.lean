import Derived.Test.YbulkaggiB5
namespace Go.Proofs.Ybulkaggi.BM
open Go.RowKit Go.Proofs.Ybulkaggi Go.WideMaps Go.Maps
open Go.Proofs.Ybulkaggi.CE (ptrElem ptrElem_mk ptrElem_nil ptrElem_inv klI klI_key klI_inj keyI key3 map_keep map_at hlt tag_ne upd upd_same upd_other)
set_option linter.unusedVariables false
set_option maxRecDepth 100000

theorem size_set (w : World) (a : Addr) (v : Value) : (w.setCell a v).heap.size = w.heap.size := by simp [World.setCell]
theorem below_set' {B b : Nat} {a w : World} (h : Below B a w) (hb : B ≤ b) (i : Nat) (v : Value) : Below B a (w.setCell ⟨b, i, none⟩ v) :=
  h.trans ⟨rfl, rfl, rfl, by rw [size_set]; exact Nat.le_refl _, fun k hk => Below.heap_setCell w ⟨b, i, none⟩ v k (fun e => by simp only at e; omega)⟩
/-- The two stores: the last operation, and an abort. -/
theorem two_sets {w : World} {B t f l a i : Nat} (h : w.heap[B]? = some (.cells #[.int .i64 (t : Int), .int .i64 (f : Int), .int .i64 (l : Int), .int .i64 (a : Int)] 99 (0, 0))) :
    (w.setCell ⟨B, 2, none⟩ (.int .i64 (i : Int))).heap[B]? = some (.cells #[.int .i64 (t : Int), .int .i64 (f : Int), .int .i64 (i : Int), .int .i64 (a : Int)] 99 (0, 0)) ∧
    ((w.setCell ⟨B, 2, none⟩ (.int .i64 (i : Int))).setCell ⟨B, 3, none⟩ (.int .i64 (i : Int))).heap[B]? = some (.cells #[.int .i64 (t : Int), .int .i64 (f : Int), .int .i64 (i : Int), .int .i64 (i : Int)] 99 (0, 0)) := by
  have h1 := heap_setCell_same w B 2 _ 99 (.int .i64 (i : Int)) h
  have h2 := heap_setCell_same _ B 3 _ 99 (.int .i64 (i : Int)) h1
  exact ⟨h1, h2⟩

/-- One seen before. -/
theorem Sp.again {N mb i : Nat} {w : World} {L : List O3} {tb f l a : Nat → Nat} (h : Sp N w mb L i tb f l a) {t : Nat} (ht : tx L i t) (hs : Seen L i t) {w' : World} {A : Nat}
    (ho : ∀ k, k ≠ tb t → k < w.heap.size → w'.heap[k]? = w.heap[k]?) (hB : w'.heap[tb t]? = some (.cells #[.int .i64 (t : Int), .int .i64 (f t : Int), .int .i64 (i : Int), .int .i64 (A : Int)] 99 (0, 0))) (hA : Ab L (i + 1) t A) :
    Sp N w' mb L (i + 1) (upd tb t (tb t)) (upd f t (f t)) (upd l t i) (upd a t A) := by
  obtain ⟨es, cl, hm⟩ := h.map.at_
  refine h.next ht ?_ (fun x hx e => ho _ (fun e' => e (h.inj x t hx hs e')) (hlt (h.blk x hx))) hB (h.new t hs) (fun x hx e e' => e (h.inj x t hx hs e')) (h.fi t hs).next hA
  have h1 := h.map.keep (w' := w') (ho mb (fun e => by rw [e, h.blk t hs] at hm; cases hm) (hlt hm))
  obtain ⟨n, Dm, a1, a2, a3, a4⟩ := h1.iff (fun x => (⟨fun h => .inl h, fun h' => by rcases h' with h' | rfl; exact h'; exact hs⟩ : Seen L i x ↔ (Seen L i x ∨ x = t))) (tb' := upd tb t (tb t)) (fun x hx => by
    by_cases e : x = t
    · rw [e, upd_same]
    · rw [upd_other _ _ e])
  exact ⟨n, Dm, a1, a2, a3, by omega⟩
/-- One new. -/
theorem Sp.first {N mb i : Nat} {w : World} {L : List O3} {tb f l a : Nat → Nat} (h : Sp N w mb L i tb f l a) {t : Nat} (ht : tx L i t) (hs : ¬ Seen L i t) {w1 w' : World} {A B : Nat}
    (hm : TB w1 mb (i + 1) (fun x => Seen L i x ∨ x = t) (upd tb t B)) (hg : ∀ k, k < w.heap.size → k ≠ mb → w1.heap[k]? = w.heap[k]?) (hBn : w.heap.size ≤ B) (hN : N ≤ w.heap.size)
    (ho : ∀ k, k ≠ B → w'.heap[k]? = w1.heap[k]?) (hB : w'.heap[B]? = some (.cells #[.int .i64 (t : Int), .int .i64 (i : Int), .int .i64 (i : Int), .int .i64 (A : Int)] 99 (0, 0))) (hA : Ab L (i + 1) t A) :
    Sp N w' mb L (i + 1) (upd tb t B) (upd f t i) (upd l t i) (upd a t A) := by
  obtain ⟨es, cl, hm0⟩ := h.map.at_
  have lm := hlt hm0
  refine h.next ht (hm.keep (ho mb (by omega))) (fun x hx e => ?_) hB (by omega) (fun x hx e e' => ?_) ⟨Nat.lt_succ_self i, ht, fun q hq h' => hs ⟨q, hq, h'⟩⟩ hA
  · have lx := hlt (h.blk x hx)
    rw [ho _ (by omega), hg _ lx (fun e' => by rw [← e', h.blk x hx] at hm0; cases hm0)]
  · have lx := hlt (h.blk x hx)
    omega

def SpansPost (w : World) (L : List O3) (e : Ending) (w' : World) : Prop :=
  ∃ mb tb f l a, e = .returned (.map (some mb)) ∧ Sp w.heap.size w' mb L L.length tb f l a ∧ Below w.heap.size w w'

set_option maxHeartbeats 2000000 in
theorem spans_any (g n c : Nat) (L : List O3) (w : World) (hn : n ≤ 256) (hl : L.length = n) (h : OpsAt w g L) (hg : g < w.heap.size) :
    Calls Yba.prog 15 #[.slice (some ⟨g, 0, none⟩) n c] w (SpansPost w L) := by
  have H := hide h
  have HL := hide hl
  have HG := hide hg
  clear h hl hg
  have hmm := @run_makeMap Yba.prog
  go_enter Yba.func15, Yba.ntmps15
  go_upto_region 2 with fail
  have S0 : Hid (Sp w.heap.size (w.alloc (.map #[] 0)) w.heap.size L 0 (fun _ => 0) (fun _ => 0) (fun _ => 0) (fun _ => 0)) := by
    have no : ∀ t, ¬ Seen L 0 t := fun t ⟨p, hp, _⟩ => by omega
    exact ⟨(TB.made w (fun _ => 0)).iff (fun t => ⟨fun h => h.elim, fun h => (no t h).elim⟩) (fun _ _ => rfl), Nat.le_refl _, fun t h => (no t h).elim, fun t h => (no t h).elim, fun t _ h => (no t h).elim, fun t h => (no t h).elim, fun t h => (no t h).elim, fun t h => (no t h).elim⟩
  have B0 : Hid (Below w.heap.size w (w.alloc (.map #[] 0))) := (Below.refl _ _).alloc (Nat.le_refl _) _
  clear hmm
  generalize w.alloc (.map #[] 0) = w1 at *
  obtain ⟨mb, hmb⟩ : ∃ mb, w.heap.size = mb := ⟨_, rfl⟩
  have HMB := hide hmb
  have S0' : Hid (Sp w.heap.size w1 mb L 0 (fun _ => 0) (fun _ => 0) (fun _ => 0) (fun _ => 0)) := by
    rw [← hmb]
    exact S0.out
  clear S0
  simp only [hmb]
  clear hmb
  go_wp2
  go_loopw [10] (fun q wr => ∃ (i : Nat) (tb f l a : Nat → Nat), i ≤ n ∧ q = .int .i64 (i : Int) ∧ Sp w.heap.size wr mb L i tb f l a ∧ Below w.heap.size w wr) (fun q _ => n - (intOf q).toNat)
  case atStart => exact ⟨0, _, _, _, _, Nat.zero_le _, rfl, S0'.out, B0.out⟩
  case round =>
    obtain ⟨i, tb, f, l, a, hi, rfl, hS, hB⟩ := hrel
    by_cases hin : i < n
    · have hin' : (i : Int) < (n : Int) := by omega
      obtain ⟨o, ho⟩ : ∃ o, L[i]? = some o := ⟨_, List.getElem?_eq_getElem (by rw [HL.out]; exact hin)⟩
      obtain ⟨hil, hoe⟩ := List.getElem?_eq_some_iff.1 ho
      have eg := hB.block g HG.out
      have c0 := (World.cell?_of_block (a := ⟨g, i * 3, none⟩) eg).trans (H.out.a i hil)
      have c1 := (World.cell?_of_block (a := ⟨g, i * 3 + 1, none⟩) eg).trans (H.out.t i hil)
      have c2 := (World.cell?_of_block (a := ⟨g, i * 3 + 2, none⟩) eg).trans (H.out.i i hil)
      have ok := H.out.ok i hil
      rw [hoe] at c0 c1 c2 ok
      have htx : tx L i o.2.1 := ⟨o, ho, rfl⟩
      have hab : ab L i o.2.1 ↔ o.1 = 4 := ⟨fun ⟨o', h1, h2, h3⟩ => by rw [ho] at h1; cases h1; exact h3, fun h => ⟨o, ho, rfl, h⟩⟩
      have hsz := hB.size
      have lt4 := ok.t4
      have hk6 := ok.k
      have HS := hide hS
      have HBl := hide hB
      have HTX := hide htx
      have HAB := hide hab
      clear hS hB eg ho hoe htx hab ok
      obtain ⟨k, t, j⟩ := o
      simp only at c0 c1 lt4 hk6 HTX HAB
      generalize itB (k, t, j) = s at c2
      have lm : mb < wr.heap.size := by
        obtain ⟨es, cl, hm⟩ := HS.out.map.at_
        exact hlt hm
      have hmn : w.heap.size ≤ mb := HS.out.mnew
      by_cases hs : Seen L i t
      · have hb := HS.out.blk t hs
        have lb := hlt hb
        have hbn := HS.out.new t hs
        by_cases hk4 : k = 4
        · subst hk4
          simp only [actB] at c0
          obtain ⟨b2, b3, fz⟩ : wr.cell? ⟨tb t, 2, none⟩ = some (.int .i64 (l t : Int)) ∧ wr.cell? ⟨tb t, 3, none⟩ = some (.int .i64 (a t : Int)) ∧ ∀ q, wr.frozen? ⟨tb t, q, none⟩ = false := ⟨(cell_at hb 2).trans rfl, (cell_at hb 3).trans rfl, fun q => free_at hb q⟩
          have fz2 := fz 2
          have fz3 := fz 3
          have rlk := TB.hit (HS.out.map.keep (w' := wr.alloc (.cells #[.string ⟨#[97]⟩, .int .i64 (t : Int), .string s] 87)) (Below.heap_alloc wr _ mb lm)) (x := t) (by omega) hs
          have FIN : Hid (∃ tb' f' l' a', Sp w.heap.size (((wr.setCell ⟨tb t, 2, none⟩ (.int .i64 (i : Int))).setCell ⟨tb t, 3, none⟩ (.int .i64 (i : Int))).alloc (.cells #[.string ⟨#[97]⟩, .int .i64 (t : Int), .string s] 87)) mb L (i + 1) tb' f' l' a' ∧ Below w.heap.size w (((wr.setCell ⟨tb t, 2, none⟩ (.int .i64 (i : Int))).setCell ⟨tb t, 3, none⟩ (.int .i64 (i : Int))).alloc (.cells #[.string ⟨#[97]⟩, .int .i64 (t : Int), .string s] 87))) := by
            refine ⟨_, _, _, _, HS.out.again HTX.out hs (A := i) (fun k hk hl => ?_) ?_ (Ab.here (HAB.out.2 rfl)), ?_⟩
            · rw [Below.heap_alloc _ _ k (by rw [size_set, size_set]; exact hl)]
              exact (Below.heap_setCell _ ⟨tb t, 3, none⟩ _ k hk).trans (Below.heap_setCell _ ⟨tb t, 2, none⟩ _ k hk)
            · rw [Below.heap_alloc _ _ _ (by rw [size_set, size_set]; exact lb)]
              exact (two_sets hb).2
            · exact Below.alloc ((below_set' (below_set' HBl.out (show w.heap.size ≤ tb t by omega) 2 (.int .i64 (i : Int))) (show w.heap.size ≤ tb t by omega) 3 (.int .i64 (i : Int)))) (by rw [size_set, size_set]; omega) _
          have HFZ := hide fz
          clear fz
          generalize tb t = B at *
          go_wp2
          obtain ⟨tb', f', l', a', e1, e2⟩ := FIN.out
          exact ⟨⟨i + 1, tb', f', l', a', by omega, by simp, e1, e2⟩, by simp [intOf]; omega⟩
        · have hn1 : ¬ (actB k).toList = (⟨#[97]⟩ : ByteArray).toList := fun e => hk4 ((actB_L hk6 (show 4 < 6 by decide)).1 e)
          have hn2 : ((actB k).toList == [97]) = false := by
            simp only [beq_eq_false_iff_ne]
            exact fun e => hn1 (e.trans (by rw [ByteArray.toList_eq]))
          obtain ⟨b2, b3, fz⟩ : wr.cell? ⟨tb t, 2, none⟩ = some (.int .i64 (l t : Int)) ∧ wr.cell? ⟨tb t, 3, none⟩ = some (.int .i64 (a t : Int)) ∧ ∀ q, wr.frozen? ⟨tb t, q, none⟩ = false := ⟨(cell_at hb 2).trans rfl, (cell_at hb 3).trans rfl, fun q => free_at hb q⟩
          have fz2 := fz 2
          have fz3 := fz 3
          have rlk := TB.hit (HS.out.map.keep (w' := wr.alloc (.cells #[.string (actB k), .int .i64 (t : Int), .string s] 87)) (Below.heap_alloc wr _ mb lm)) (x := t) (by omega) hs
          have FIN : Hid (∃ tb' f' l' a', Sp w.heap.size ((wr.setCell ⟨tb t, 2, none⟩ (.int .i64 (i : Int))).alloc (.cells #[.string (actB k), .int .i64 (t : Int), .string s] 87)) mb L (i + 1) tb' f' l' a' ∧ Below w.heap.size w ((wr.setCell ⟨tb t, 2, none⟩ (.int .i64 (i : Int))).alloc (.cells #[.string (actB k), .int .i64 (t : Int), .string s] 87))) := by
            refine ⟨_, _, _, _, HS.out.again HTX.out hs (A := a t) (fun k hk hl => ?_) ?_ ((HS.out.ab t hs).next (fun h => hk4 (HAB.out.1 h))), ?_⟩
            · rw [Below.heap_alloc _ _ k (by rw [size_set]; exact hl)]
              exact Below.heap_setCell _ ⟨tb t, 2, none⟩ _ k hk
            · rw [Below.heap_alloc _ _ _ (by rw [size_set]; exact lb)]
              exact (two_sets hb).1
            · exact Below.alloc ((below_set' HBl.out (show w.heap.size ≤ tb t by omega) 2 (.int .i64 (i : Int)))) (by rw [size_set]; omega) _
          have HFZ := hide fz
          clear fz
          generalize tb t = B at *
          go_wp2
          obtain ⟨tb', f', l', a', e1, e2⟩ := FIN.out
          exact ⟨⟨i + 1, tb', f', l', a', by omega, by simp, e1, e2⟩, by simp [intOf]; omega⟩
      · by_cases hk4 : k = 4
        · subst hk4
          simp only [actB] at c0
          have rlk := TB.miss (HS.out.map.keep (w' := wr.alloc (.cells #[.string ⟨#[97]⟩, .int .i64 (t : Int), .string s] 87)) (Below.heap_alloc wr _ mb lm)) (x := t) (by omega) hs
          have hmA := HS.out.map.keep (w' := (wr.alloc (.cells #[.string ⟨#[97]⟩, .int .i64 (t : Int), .string s] 87)).alloc (.cells #[.int .i64 (t : Int), .int .i64 (i : Int), .int .i64 0, .int .i64 (n : Int)] 99)) ((Below.heap_alloc _ _ mb (by simp; omega)).trans (Below.heap_alloc wr _ mb lm))
          obtain ⟨w2, r2, t2, g2⟩ := hmA.put (x := t) (by omega) hs (by omega) (wr.heap.size + 1)
          have x0 : w2.cell? ⟨wr.heap.size, 0, none⟩ = some (.string ⟨#[97]⟩) := (World.cell?_of_block (a := ⟨wr.heap.size, 0, none⟩) ((g2.block wr.heap.size (by simp; omega) (by simp; omega)).trans (Below.heap_alloc _ _ wr.heap.size (by simp)))).trans ((cell_at (heap_alloc_new wr _) 0).trans rfl)
          have hY : w2.heap[wr.heap.size + 1]? = some (.cells #[.int .i64 (t : Int), .int .i64 (i : Int), .int .i64 0, .int .i64 (n : Int)] 99 (0, 0)) := (g2.block _ (by simp) (by simp; omega)).trans (by
            have := heap_alloc_new (wr.alloc (.cells #[.string ⟨#[97]⟩, .int .i64 (t : Int), .string s] 87)) (.cells #[.int .i64 (t : Int), .int .i64 (i : Int), .int .i64 0, .int .i64 (n : Int)] 99)
            simpa using this)
          obtain ⟨b2, b3, fz2, fz3⟩ : w2.cell? ⟨wr.heap.size + 1, 2, none⟩ = some (.int .i64 0) ∧ w2.cell? ⟨wr.heap.size + 1, 3, none⟩ = some (.int .i64 (n : Int)) ∧ w2.frozen? ⟨wr.heap.size + 1, 2, none⟩ = false ∧ w2.frozen? ⟨wr.heap.size + 1, 3, none⟩ = false := ⟨(cell_at hY 2).trans rfl, (cell_at hY 3).trans rfl, free_at hY 2, free_at hY 3⟩
          have FIN : Hid (∃ tb' f' l' a', Sp w.heap.size ((w2.setCell ⟨wr.heap.size + 1, 2, none⟩ (.int .i64 (i : Int))).setCell ⟨wr.heap.size + 1, 3, none⟩ (.int .i64 (i : Int))) mb L (i + 1) tb' f' l' a' ∧ Below w.heap.size w ((w2.setCell ⟨wr.heap.size + 1, 2, none⟩ (.int .i64 (i : Int))).setCell ⟨wr.heap.size + 1, 3, none⟩ (.int .i64 (i : Int)))) := by
            have hY' : w2.heap[wr.heap.size + 1]? = some (.cells #[.int .i64 (t : Int), .int .i64 (i : Int), .int .i64 ((0 : Nat) : Int), .int .i64 (n : Int)] 99 (0, 0)) := hY
            refine ⟨_, _, _, _, HS.out.first HTX.out hs (A := i) (B := wr.heap.size + 1) t2 (fun k hk hne => ?_) (by omega) (by omega) (fun k hk => ?_) (two_sets hY').2 (Ab.here (HAB.out.2 rfl)), ?_⟩
            · rw [g2.block k (by simp; omega) (by simp; omega), Below.heap_alloc _ _ k (by simp; omega), Below.heap_alloc _ _ k hk]
            · exact (Below.heap_setCell _ ⟨wr.heap.size + 1, 3, none⟩ _ k hk).trans (Below.heap_setCell _ ⟨wr.heap.size + 1, 2, none⟩ _ k hk)
            · exact (below_set' (below_set' ((((HBl.out.alloc hsz _).alloc (by simp; omega) _).grown g2 (by simp; omega) (fun k e => by cases e; exact HS.out.mnew))) (show w.heap.size ≤ wr.heap.size + 1 by omega) 2 (.int .i64 (i : Int))) (show w.heap.size ≤ wr.heap.size + 1 by omega) 3 (.int .i64 (i : Int)))
          clear hmA t2 hY
          go_wp2
          obtain ⟨tb', f', l', a', e1, e2⟩ := FIN.out
          exact ⟨⟨i + 1, tb', f', l', a', by omega, by simp, e1, e2⟩, by simp [intOf]; omega⟩
        · have hn1 : ¬ (actB k).toList = (⟨#[97]⟩ : ByteArray).toList := fun e => hk4 ((actB_L hk6 (show 4 < 6 by decide)).1 e)
          have hn2 : ((actB k).toList == [97]) = false := by
            simp only [beq_eq_false_iff_ne]
            exact fun e => hn1 (e.trans (by rw [ByteArray.toList_eq]))
          have rlk := TB.miss (HS.out.map.keep (w' := wr.alloc (.cells #[.string (actB k), .int .i64 (t : Int), .string s] 87)) (Below.heap_alloc wr _ mb lm)) (x := t) (by omega) hs
          have hmA := HS.out.map.keep (w' := (wr.alloc (.cells #[.string (actB k), .int .i64 (t : Int), .string s] 87)).alloc (.cells #[.int .i64 (t : Int), .int .i64 (i : Int), .int .i64 0, .int .i64 (n : Int)] 99)) ((Below.heap_alloc _ _ mb (by simp; omega)).trans (Below.heap_alloc wr _ mb lm))
          obtain ⟨w2, r2, t2, g2⟩ := hmA.put (x := t) (by omega) hs (by omega) (wr.heap.size + 1)
          have x0 : w2.cell? ⟨wr.heap.size, 0, none⟩ = some (.string (actB k)) := (World.cell?_of_block (a := ⟨wr.heap.size, 0, none⟩) ((g2.block wr.heap.size (by simp; omega) (by simp; omega)).trans (Below.heap_alloc _ _ wr.heap.size (by simp)))).trans ((cell_at (heap_alloc_new wr _) 0).trans rfl)
          have hY : w2.heap[wr.heap.size + 1]? = some (.cells #[.int .i64 (t : Int), .int .i64 (i : Int), .int .i64 0, .int .i64 (n : Int)] 99 (0, 0)) := (g2.block _ (by simp) (by simp; omega)).trans (by
            have := heap_alloc_new (wr.alloc (.cells #[.string (actB k), .int .i64 (t : Int), .string s] 87)) (.cells #[.int .i64 (t : Int), .int .i64 (i : Int), .int .i64 0, .int .i64 (n : Int)] 99)
            simpa using this)
          obtain ⟨b2, b3, fz2, fz3⟩ : w2.cell? ⟨wr.heap.size + 1, 2, none⟩ = some (.int .i64 0) ∧ w2.cell? ⟨wr.heap.size + 1, 3, none⟩ = some (.int .i64 (n : Int)) ∧ w2.frozen? ⟨wr.heap.size + 1, 2, none⟩ = false ∧ w2.frozen? ⟨wr.heap.size + 1, 3, none⟩ = false := ⟨(cell_at hY 2).trans rfl, (cell_at hY 3).trans rfl, free_at hY 2, free_at hY 3⟩
          have FIN : Hid (∃ tb' f' l' a', Sp w.heap.size (w2.setCell ⟨wr.heap.size + 1, 2, none⟩ (.int .i64 (i : Int))) mb L (i + 1) tb' f' l' a' ∧ Below w.heap.size w (w2.setCell ⟨wr.heap.size + 1, 2, none⟩ (.int .i64 (i : Int)))) := by
            have hY' : w2.heap[wr.heap.size + 1]? = some (.cells #[.int .i64 (t : Int), .int .i64 (i : Int), .int .i64 ((0 : Nat) : Int), .int .i64 (n : Int)] 99 (0, 0)) := hY
            refine ⟨_, _, _, _, HS.out.first HTX.out hs (A := n) (B := wr.heap.size + 1) t2 (fun k hk hne => ?_) (by omega) (by omega) (fun k hk => ?_) (two_sets hY').1 (Or.inl ⟨HL.out.symm, fun q hq h => by
                by_cases e : q = i
                · rw [e] at h; exact hk4 (HAB.out.1 h)
                · exact hs ⟨q, by omega, ab_tx h⟩⟩), ?_⟩
            · rw [g2.block k (by simp; omega) (by simp; omega), Below.heap_alloc _ _ k (by simp; omega), Below.heap_alloc _ _ k hk]
            · exact Below.heap_setCell _ ⟨wr.heap.size + 1, 2, none⟩ _ k hk
            · exact (below_set' ((((HBl.out.alloc hsz _).alloc (by simp; omega) _).grown g2 (by simp; omega) (fun k e => by cases e; exact HS.out.mnew))) (show w.heap.size ≤ wr.heap.size + 1 by omega) 2 (.int .i64 (i : Int)))
          clear hmA t2 hY
          go_wp2
          obtain ⟨tb', f', l', a', e1, e2⟩ := FIN.out
          exact ⟨⟨i + 1, tb', f', l', a', by omega, by simp, e1, e2⟩, by simp [intOf]; omega⟩
    · have hin' : ¬ (i : Int) < (n : Int) := by omega
      obtain rfl : i = n := by omega
      have FIN : Hid (SpansPost w L (.returned (.map (some mb))) wr) := ⟨mb, tb, f, l, a, rfl, by rw [HL.out]; exact hS, hB⟩
      clear hS hB
      go_wp2
      go_ret
      exact FIN.out

end Go.Proofs.Ybulkaggi.BM

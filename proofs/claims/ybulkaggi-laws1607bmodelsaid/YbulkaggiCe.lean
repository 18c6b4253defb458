import Derived.Test.YbulkaggiCd
namespace Go.Proofs.Ybulkaggi.CE
open Go.RowKit Go.WideMaps Go.Maps
set_option linter.unusedVariables false
set_option maxRecDepth 100000

/-! ### Rows of ignored writes, their numbers left open -/
def U64s (xs : List Value) : Prop := ∀ u ∈ xs, ∃ a, u = .int .u64 a
theorem U64s.one {xs : List Value} (h : U64s xs) : ∀ u ∈ xs, u.oneCell' = true := fun u hu => by
  obtain ⟨a, rfl⟩ := h u hu
  rfl
theorem U64s.lset : ∀ (vs xs : List Value) (o : Nat), U64s xs → U64s vs → U64s (lset xs o vs)
  | [], _, _, h, _ => h
  | v :: r, xs, o, h, hv => U64s.lset r _ _ (fun u hu => by
      rcases List.mem_or_eq_of_mem_set hu with h1 | rfl
      · exact h u h1
      · exact hv u (by simp)) (fun u hu => hv u (by simp [hu]))
theorem ign_u64 (gl : List (Int × Int)) : U64s (gl.flatMap ignC) := fun u hu => by
  obtain ⟨p, _, h⟩ := List.mem_flatMap.1 hu
  simp [ignC] at h
  rcases h with rfl | rfl
  · exact ⟨_, rfl⟩
  · exact ⟨_, rfl⟩
theorem pair_up : ∀ (n : Nat) (xs : List Value), xs.length = n * 2 → U64s xs → ∃ gl : List (Int × Int), gl.length = n ∧ gl.flatMap ignC = xs
  | 0, xs, h, _ => ⟨[], rfl, by
      obtain rfl : xs = [] := List.eq_nil_of_length_eq_zero (by simpa using h)
      rfl⟩
  | n + 1, xs, h, hu => by
    match xs, h with
    | [], h => simp at h
    | [_], h => simp at h; omega
    | u :: v :: r, h =>
      obtain ⟨a, ha⟩ := hu u (by simp)
      obtain ⟨b, hb⟩ := hu v (by simp)
      obtain ⟨gl, h1, h2⟩ := pair_up n r (by simp at h; omega) (fun z hz => hu z (by simp [hz]))
      exact ⟨(a, b) :: gl, by simp [h1], by simp [ignC, h2, ha, hb]⟩
structure UR (N : Nat) (w : World) (g n c : Nat) : Prop where
  own : ∃ xs, U64s xs ∧ w.ownsRow N 150 2 (.slice (some ⟨g, 0, none⟩) n c) n xs
theorem UR.lt {N : Nat} {w : World} {g n c : Nat} (h : UR N w g n c) : g < w.heap.size ∧ N ≤ g ∧ n ≤ c ∧ c ≤ 9223372036854775807 := by
  obtain ⟨xs, _, h⟩ := h.own
  rcases h.2 with ⟨h1, _⟩ | ⟨g', cap', cur, h1, h2, h3, h4, h5, _⟩
  · cases h1
  · cases h1
    exact ⟨hlt h3, h2, h4, h5⟩
theorem UR.at_ {N : Nat} {w : World} {g n c : Nat} (h : UR N w g n c) {k : Nat} (hk : k < n) : ∃ a b, w.cell? ⟨g, k * 2, none⟩ = some (.int .u64 a) ∧ w.cell? ⟨g, k * 2 + 1, none⟩ = some (.int .u64 b) := by
  obtain ⟨xs, hu, h⟩ := h.own
  have hl := h.1
  obtain ⟨a, ha⟩ := hu _ (List.getElem_mem (show k * 2 < xs.length by omega))
  obtain ⟨b, hb⟩ := hu _ (List.getElem_mem (show k * 2 + 1 < xs.length by omega))
  exact ⟨a, b, by rw [h.cellAt _ (by omega), List.getElem?_eq_getElem (by omega), ha], by rw [h.cellAt _ (by omega), List.getElem?_eq_getElem (by omega), hb]⟩
theorem UR.free {N : Nat} {w : World} {g n c : Nat} (h : UR N w g n c) (k : Nat) : w.frozen? ⟨g, k, none⟩ = false := by
  obtain ⟨xs, hu, h⟩ := h.own
  exact h.frozenAt _
theorem UR.keep {N : Nat} {w w' : World} {g n c : Nat} (h : UR N w g n c) (hb : w'.heap[g]? = w.heap[g]?) : UR N w' g n c := by
  obtain ⟨xs, hu, h⟩ := h.own
  exact ⟨xs, hu, own_keep h (fun k hk => by cases hk; exact hb)⟩
theorem UR.grown {N : Nat} {w w' : World} {g n c : Nat} (h : UR N w g n c) (hg : w.grownBy w' none) : UR N w' g n c := h.keep (hg.block g h.lt.1 (by simp))
theorem UR.alloc {N : Nat} {w : World} {g n c : Nat} (h : UR N w g n c) (o : Obj) : UR N (w.alloc o) g n c := h.keep (Below.heap_alloc w o g h.lt.1)
theorem UR.setCells {N : Nat} {w : World} {g n c : Nat} (h : UR N w g n c) (o : Nat) (vs : List Value) (hv : U64s vs) : UR N (w.setCells g o vs) g n c := by
  obtain ⟨xs, hu, h⟩ := h.own
  exact ⟨_, U64s.lset vs xs o hu hv, own_setCells vs o h⟩
theorem UR.front {N : Nat} {w : World} {g n c : Nat} (h : UR N w g n c) {m : Nat} (hm : m ≤ n) : UR N w g m c := by
  obtain ⟨xs, hu, h⟩ := h.own
  exact ⟨_, fun u hu' => hu u (List.mem_of_mem_take hu'), own_prefix h hm⟩
theorem UR.row {N : Nat} {w : World} {g n c : Nat} (h : UR N w g n c) : ∃ gl : List (Int × Int), gl.length = n ∧ w.ownsRow N 150 2 (.slice (some ⟨g, 0, none⟩) n c) n (gl.flatMap ignC) := by
  obtain ⟨xs, hu, h⟩ := h.own
  obtain ⟨gl, h1, h2⟩ := pair_up n xs h.1 hu
  exact ⟨gl, h1, by rw [h2]; exact h⟩
theorem u64_two (a b : Int) : U64s [.int .u64 a, .int .u64 b] := fun u hu => by
  simp at hu
  rcases hu with rfl | rfl
  · exact ⟨_, rfl⟩
  · exact ⟨_, rfl⟩
theorem grown_setCell {w0 w : World} {g i : Nat} (h : w0.grownBy w (some g)) (v : Value) : w0.grownBy (w.setCell ⟨g, i, none⟩ v) (some g) :=
  ⟨h.os, h.tape, h.output, by rw [size_set]; exact h.size, fun k hk hn => (Below.heap_setCell w ⟨g, i, none⟩ v k (fun e => hn (by simp only at e; rw [e]))).trans (h.block k hk hn)⟩
theorem grown_setCells {w0 : World} {g : Nat} : ∀ (vs : List Value) (o : Nat) {w : World}, w0.grownBy w (some g) → w0.grownBy (w.setCells g o vs) (some g)
  | [], _, _, h => h
  | _ :: r, o, _, h => grown_setCells r (o + 1) (grown_setCell h _)
theorem grown_none {w0 w w' : World} {r : Option Nat} (h : w0.grownBy w r) (k : w.grownBy w' none) : w0.grownBy w' r :=
  ⟨k.os.trans h.os, k.tape.trans h.tape, k.output.trans h.output, Nat.le_trans h.size k.size, fun i hi hn => (k.block i (Nat.lt_of_lt_of_le hi h.size) (by simp)).trans (h.block i hi hn)⟩
theorem grown_alloc (w : World) (o : Obj) : w.grownBy (w.alloc o) none := ⟨rfl, rfl, rfl, by simp, fun k hk _ => Below.heap_alloc w o k hk⟩
theorem grown_drewN {w w' : World} {r : Option Nat} (h : w.grownBy w' r) (n : Nat) : w.grownBy (w'.drewN n) r := by
  induction n with
  | zero => exact h
  | succ n ih => exact ⟨ih.os, ih.tape, ih.output, ih.size, ih.block⟩

/-! ### The closure of End, IndexFunc, DeleteFunc -/
def CloPost (w : World) (e : Ending) (w' : World) : Prop := ∃ r, e = .returned (.bool r) ∧ w.grownBy w' none
theorem clo_any (a b ts : Int) (bx B : Nat) (w : World) (lt : bx < w.heap.size) (lt2 : B < w.heap.size) (c1 : w.cell? ⟨bx, 0, none⟩ = some (Pp B)) (c2 : w.cell? ⟨B, 1, none⟩ = some (.int .u64 ts)) :
    Calls Yba.prog 71 #[.agg #[.int .u64 a, .int .u64 b], Pp bx] w (CloPost w) := by
  have HP : Hid (∀ n r, CloPost w (.returned (.bool r)) ((w.alloc (.cells #[.int .u64 a, .int .u64 b] 150)).drewN n)) := fun n r => ⟨r, rfl, grown_drewN (grown_alloc _ _) n⟩
  go_enter Yba.func71, Yba.ntmps71
  go_upto_region 1 with fail
  go_quiet (fail)
  go_wp2
  go_ret
  exact HP.out _ _

theorem grown_cell {w w' : World} {r : Option Nat} (h : w.grownBy w' r) {b : Nat} (hb : b < w.heap.size) (hne : some b ≠ r) (i : Nat) : w'.cell? ⟨b, i, none⟩ = w.cell? ⟨b, i, none⟩ := World.cell?_of_block (h.block b hb hne)
def IfPost (n : Nat) (w : World) (e : Ending) (w' : World) : Prop := ∃ r : Int, e = .returned (.int .i64 r) ∧ (r = -1 ∨ ∃ i : Nat, i < n ∧ r = (i : Int)) ∧ w.grownBy w' none
theorem index_any {N : Nat} (g n c bx B : Nat) (ts : Int) (w : World) (h : UR N w g n c) (hn : n ≤ 100000) (lt : bx < w.heap.size) (lt2 : B < w.heap.size) (c1 : w.cell? ⟨bx, 0, none⟩ = some (Pp B)) (c2 : w.cell? ⟨B, 1, none⟩ = some (.int .u64 ts)) :
    Calls Yba.prog 93 #[.slice (some ⟨g, 0, none⟩) n c, .func (.func 71) #[] #[Pp bx]] w (IfPost n w) := by
  have H := hide h
  have HC : Hid (∀ a b w', w.grownBy w' none → Calls Yba.prog 71 #[.agg #[.int .u64 a, .int .u64 b], Pp bx] w' (CloPost w')) := fun a b w' hg => clo_any a b ts bx B w' (Nat.lt_of_lt_of_le lt hg.size) (Nat.lt_of_lt_of_le lt2 hg.size) ((grown_cell hg lt (by simp) 0).trans c1) ((grown_cell hg lt2 (by simp) 1).trans c2)
  clear h c1 c2
  go_enter Yba.func93, Yba.ntmps93
  go_wp2
  go_loopw [8] (fun q wr => ∃ k : Nat, k ≤ n ∧ q = .int .i64 (k : Int) ∧ w.grownBy wr none) (fun q _ => n - (intOf q).toNat)
  case atStart => exact ⟨0, Nat.zero_le _, rfl, World.grownBy.refl _ _⟩
  case round =>
    obtain ⟨k, hk, rfl, hg⟩ := hrel
    have HG := hide hg
    clear hg
    by_cases hkn : k < n
    · have hkn' : (k : Int) < (n : Int) := by omega
      obtain ⟨a, b, d1, d2⟩ := (H.out.grown HG.out).at_ hkn
      go_upto_region 4 with fail
      go_wp2_with (go_at_call 71; refine (HC.out _ _ _ HG.out).mono ?_; rintro e w' ⟨r, rfl, hg2⟩; have HG2 := hide hg2; clear hg2)
      · go_ret
        exact ⟨_, rfl, .inr ⟨k, hkn, rfl⟩, grown_none HG.out HG2.out⟩
      · exact ⟨⟨k + 1, by omega, by simp, grown_none HG.out HG2.out⟩, by simp [intOf]; omega⟩
    · have hkn' : ¬ (k : Int) < (n : Int) := by omega
      go_wp2
      go_ret
      exact ⟨_, rfl, .inl rfl, HG.out⟩
theorem index_nil (f : Value) (w : World) :
    Calls Yba.prog 93 #[.slice none 0 0, f] w fun e w' => e = .returned (.int .i64 (-1)) ∧ w' = w := by
  go_enter Yba.func93, Yba.ntmps93
  go_wp2
  go_loopw [8] (fun q wr => q = .int .i64 0 ∧ wr = w) (fun q _ => 0)
  case atStart => exact ⟨rfl, rfl⟩
  case round =>
    obtain ⟨rfl, rfl⟩ := hrel
    go_wp2
    go_ret
    exact ⟨rfl, rfl⟩
theorem delfunc_nil (f : Value) (w : World) :
    Calls Yba.prog 70 #[.slice none 0 0, f] w fun e w' => e = .returned (.slice none 0 0) ∧ w' = w := by
  have C := hide (index_nil f w)
  go_enter Yba.func70, Yba.ntmps70
  go_upto_region 2 with fail
  refine C.out.mono ?_
  rintro e w' ⟨rfl, rfl⟩
  go_wp2
  go_ret
  exact ⟨rfl, rfl⟩

theorem zero_u64 (m : Nat) : U64s (Builtin.zeroCells #[.int .u64 0, .int .u64 0] m).toList := fun u hu => by
  simp [Builtin.zeroCells] at hu
  obtain ⟨i, _, rfl⟩ := hu
  rcases Nat.mod_two_eq_zero_or_one i with h | h
  · rw [h]; exact ⟨0, rfl⟩
  · rw [h]; exact ⟨0, rfl⟩
theorem clear52 (w : World) (ty : TypeId) (b o m c : Nat) (hm : 0 < m) (hc : ∀ j, j < m * 2 → (w.cell? ⟨b, o + j, none⟩).isSome = true) (hf : ∀ j, w.frozen? ⟨b, o + j, none⟩ = false) :
    (Builtin.clear_ #[52] ty #[.slice (some ⟨b, o, none⟩) m c]).run Yba.prog w = .ok (.tuple #[]) (w.setCells b o (Builtin.zeroCells #[.int .u64 0, .int .u64 0] m).toList) := by
  obtain ⟨m, rfl⟩ : ∃ k, m = k + 1 := ⟨m - 1, by omega⟩
  have hv : ∀ w, (zeroValue 150).run Yba.prog w = .ok (.agg #[.int .u64 0, .int .u64 0]) w := fun w => by kernel_rfl
  have hl : (Builtin.zeroCells #[.int .u64 0, .int .u64 0] (m + 1)).toList.length = (m + 1) * 2 := by simp [Builtin.zeroCells]
  have hst := run_storeCells_cells (P := Yba.prog) b o (Builtin.zeroCells #[.int .u64 0, .int .u64 0] (m + 1)).toList 0 w (fun j hj => by rw [hl] at hj; simpa using hc j hj) (fun j hj => by simpa using hf j) ((zero_u64 (m + 1)).one)
  simp only [Nat.add_zero] at hst
  have hz : Value.cells (.agg #[.int .u64 0, .int .u64 0]) = #[.int .u64 0, .int .u64 0] := by kernel_rfl
  simp [Builtin.clear_, run_underlying Yba.underlying52, hv, hz, hst]

theorem box_after {wr w' : World} {x y : Value} {g : Nat} (hg : (wr.alloc (.cells #[x, y] 150)).grownBy w' none) (hlg : g < wr.heap.size) :
    w'.cell? ⟨wr.heap.size, 0, none⟩ = some x ∧ w'.cell? ⟨wr.heap.size, 1, none⟩ = some y ∧ (∀ k, w'.cell? ⟨g, k, none⟩ = wr.cell? ⟨g, k, none⟩) ∧ (∀ k, w'.frozen? ⟨g, k, none⟩ = wr.frozen? ⟨g, k, none⟩) := by
  have h0 : w'.heap[wr.heap.size]? = some (.cells #[x, y] 150 (0, 0)) := (hg.block _ (by simp) (by simp)).trans (heap_alloc_new wr _)
  have hb : w'.heap[g]? = wr.heap[g]? := (hg.block g (by simp; omega) (by simp)).trans (Below.heap_alloc wr _ g hlg)
  exact ⟨(cell_at h0 0).trans rfl, (cell_at h0 1).trans rfl, fun k => World.cell?_of_block hb, fun k => World.frozen?_of_block hb⟩
def DfPost (N g n c : Nat) (w : World) (e : Ending) (w' : World) : Prop := ∃ m, m ≤ n ∧ e = .returned (.slice (some ⟨g, 0, none⟩) m c) ∧ UR N w' g m c ∧ w.grownBy w' (some g)
theorem delfunc_any {N : Nat} (g n c bx B : Nat) (ts : Int) (w : World) (h : UR N w g n c) (hn : n ≤ 100000) (lt : bx < w.heap.size) (lt2 : B < w.heap.size) (n1 : bx ≠ g) (n2 : B ≠ g) (c1 : w.cell? ⟨bx, 0, none⟩ = some (Pp B)) (c2 : w.cell? ⟨B, 1, none⟩ = some (.int .u64 ts)) :
    Calls Yba.prog 70 #[.slice (some ⟨g, 0, none⟩) n c, .func (.func 71) #[] #[Pp bx]] w (DfPost N g n c w) := by
  have H := hide h
  have C := hide (index_any g n c bx B ts w h hn lt lt2 c1 c2)
  have hcap := h.lt.2.2
  have hc1 := hcap.1
  have hc2 := hcap.2
  have HC : Hid (∀ a b w' w'', w.grownBy w' (some g) → w'' = w'.alloc (.cells #[.int .u64 a, .int .u64 b] 150) → Calls Yba.prog 71 #[.agg #[.int .u64 a, .int .u64 b], Pp bx] w'' (CloPost w'')) := fun a b w' w'' hg e => by
    subst e
    have g2 := grown_none hg (grown_alloc w' (.cells #[.int .u64 a, .int .u64 b] 150))
    exact clo_any a b ts bx B _ (Nat.lt_of_lt_of_le lt g2.size) (Nat.lt_of_lt_of_le lt2 g2.size) ((grown_cell g2 lt (by simp [n1]) 0).trans c1) ((grown_cell g2 lt2 (by simp [n2]) 1).trans c2)
  clear h c1 c2 hcap
  go_enter Yba.func70, Yba.ntmps70
  go_upto_region 2 with fail
  refine C.out.mono ?_
  rintro e w' ⟨r, rfl, hr, hg0⟩
  rcases hr with rfl | ⟨i0, hi0, rfl⟩
  · have HP : Hid (DfPost N g n c w (.returned (.slice (some ⟨g, 0, none⟩) n c)) w') := ⟨n, Nat.le_refl _, rfl, H.out.grown hg0, hg0.but _⟩
    clear hg0
    go_wp2
    go_ret
    exact HP.out
  · have HG0 := hide hg0
    clear hg0 C
    have hne : ((i0 : Int) == -1) = false := by simp
    go_wp2
    go_loopw [5, 6] (fun p q wr => ∃ i j : Nat, i < j ∧ j ≤ n ∧ p = .int .i64 (i : Int) ∧ q = .int .i64 (j : Int) ∧ UR N wr g n c ∧ w.grownBy wr (some g)) (fun p q _ => n - (intOf q).toNat)
    case atStart => exact ⟨i0, i0 + 1, by omega, by omega, rfl, by simp, H.out.grown HG0.out, HG0.out.but _⟩
    case round =>
      obtain ⟨i, j, hij, hjn, rfl, rfl, hu, hg⟩ := hrel
      have HU := hide hu
      have HG := hide hg
      have hfr := fun k => hu.free k
      have hlg := hu.lt.1
      by_cases hkn : j < n
      · have hkn' : (j : Int) < (n : Int) := by omega
        obtain ⟨a, b, d1, d2⟩ := hu.at_ hkn
        obtain ⟨a', b', d3, d4⟩ := hu.at_ (show i < n by omega)
        clear hu hg
        have HB : Hid (∀ w', (wr.alloc (.cells #[.int .u64 a, .int .u64 b] 150)).grownBy w' none → w'.cell? ⟨wr.heap.size, 0, none⟩ = some (.int .u64 a) ∧ w'.cell? ⟨wr.heap.size, 1, none⟩ = some (.int .u64 b) ∧ w'.cell? ⟨g, i * 2, none⟩ = some (.int .u64 a') ∧ w'.cell? ⟨g, i * 2 + 1, none⟩ = some (.int .u64 b') ∧ w'.frozen? ⟨g, i * 2, none⟩ = false ∧ w'.frozen? ⟨g, i * 2 + 1, none⟩ = false ∧ wr.grownBy w' none) := fun w' hg => by
          obtain ⟨h1, h2, h3, h4⟩ := box_after hg hlg
          exact ⟨h1, h2, (h3 _).trans d3, (h3 _).trans d4, (h4 _).trans (hfr _), (h4 _).trans (hfr _), grown_none (grown_alloc _ _) hg⟩
        go_wp2_with (go_at_call 71; refine (HC.out _ _ _ _ HG.out rfl).mono ?_; rintro e w' ⟨r, rfl, hg2⟩; obtain ⟨x1, x2, x3, x4, x5, x6, x7⟩ := HB.out w' hg2; have HG2 := hide x7; clear hg2 x7)
        · exact ⟨⟨i + 1, j + 1, by omega, by omega, by simp, by simp, (HU.out.grown HG2.out).setCells (i * 2) [.int .u64 a, .int .u64 b] (u64_two a b), grown_setCells [.int .u64 a, .int .u64 b] (i * 2) (grown_none HG.out HG2.out)⟩, by simp [intOf]; omega⟩
        · exact ⟨⟨i, j + 1, by omega, by omega, rfl, by simp, HU.out.grown HG2.out, grown_none HG.out HG2.out⟩, by simp [intOf]; omega⟩
      · have hkn' : ¬ (j : Int) < (n : Int) := by omega
        have hcl := fun ty => clear52 wr ty g (i * 2) (n - i) (c - i) (by omega) (fun t ht => by
          obtain ⟨xs, _, ho⟩ := hu.own
          have := ho.1
          rw [ho.cellAt _ (by omega), List.getElem?_eq_getElem (by omega)]
          rfl) (fun t => hfr _)
        have HP : Hid (DfPost N g n c w (.returned (.slice (some ⟨g, 0, none⟩) i c)) (wr.setCells g (i * 2) (Builtin.zeroCells #[.int .u64 0, .int .u64 0] (n - i)).toList)) := ⟨i, by omega, rfl, (hu.setCells _ _ (zero_u64 _)).front (by omega), grown_setCells _ _ hg⟩
        clear hu hg
        have hic : ¬ c = i := by omega
        go_wp2
        go_ret
        exact HP.out

end Go.Proofs.Ybulkaggi.CE

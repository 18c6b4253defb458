import Derived.Test.YbulkagfuProg
import Derived.WalkKit
import Derived.WalkSpells
import Derived.WalkLawsBesides
import Derived.OwnWalk
import Derived.Laws.CopyOwn
import Derived.Below
import Derived.LaidEqlPtr
import Derived.Lib.SliceRun
import Derived.Deep.RegionHeld3
import Derived.Deep.DeepCutAuto
namespace Go.Proofs.Ybulkagfu
open Go.RowKit
set_option linter.unusedVariables false
set_option maxRecDepth 100000

theorem Yba.info5 : (Yba.prog.info? 5).map (fun i => (i.zero, i.size, i.bytes)) = some (some (.int .u8 0), 1, 1) := by kernel_rfl
theorem Yba.sz5 : (Yba.prog.info? 5).map (·.size) = some 1 := by kernel_rfl

theorem copy_nil (w : World) : Calls Yba.prog 5 #[.slice none 0 0] w fun e w' => e = .returned (.slice none 0 0) ∧ w' = w := by
  have hnil := fun wx => Lib.run_eql_slice_nil (P := Yba.prog) wx 22 5 none 0 0 0 0 Yba.underlying22
  go_enter Yba.func5, Yba.ntmps5
  go_wp2
  go_ret
  exact ⟨rfl, rfl⟩

set_option maxHeartbeats 400000 in
theorem copy_some (x : Addr) (n c : Nat) (zs : List Int) (w : World) (hn : n ≤ 1024) (hc : ∀ i, i < n → w.cell? (x.add i) = some (.int .u8 (zs.getD i 0))) :
    Calls Yba.prog 5 #[.slice (some x) n c] w fun e w' => ∃ g, e = .returned (.slice (some ⟨g, 0, none⟩) n n) ∧ w.heap.size ≤ g ∧ g < w'.heap.size ∧ (∀ i, i < n → w'.cell? ⟨g, i, none⟩ = some (.int .u8 (zs.getD i 0))) ∧ Below w.heap.size w w' := by
  obtain ⟨i0, hi, hz0, hz1, hz2⟩ := info_parts Yba.info5
  have hnil := fun wx => Lib.run_eql_slice_nil (P := Yba.prog) wx 22 5 (some x) n c 0 0 Yba.underlying22
  go_enter Yba.func5, Yba.ntmps5
  go_wp2_with (at_make; refine wpList_make_full _ rfl _ _ 22 rfl w.heap.size 5 i0 _ 1 Yba.underlying22 hi hz0 hz1 .i64 .i64 n n n rfl rfl rfl rfl (by rw [hz2]; omega) (by unfold maxLen; omega) (Nat.le_refl _) ?_)
  intro w1 hown hg
  obtain ⟨cur, hcur⟩ : ∃ cur, w1.heap[w.heap.size]? = some (.cells cur 5 (0, 0)) ∧ cur.size = n := by
    rcases hown.2 with ⟨h1, h2⟩ | ⟨g, cap, cu, h1, h2, h3, h4, h5, h6, h7⟩
    · cases h1
    · injection h1 with h1 _ h8
      injection h1 with h1
      injection h1 with h1 _ _
      subst h1 h8
      exact ⟨cu, h3, by omega⟩
  have hB1 : Below w.heap.size w w1 := (Below.refl _ _).grown hg (Nat.le_refl _) (fun _ h => by cases h)
  have hsrc : ∀ j v, ((List.range n).map fun i => Value.int .u8 (zs.getD i 0))[j]? = some v → w1.cell? (x.add j) = some v := fun j v h => by
    rw [List.getElem?_map] at h
    rcases Nat.lt_or_ge j n with hj | hj
    · rw [List.getElem?_range hj] at h
      simp at h
      have h2 := hc j hj
      have hlt := World.block_lt_of_cell? w _ h2
      rw [hB1.cell hlt, h2]
      simp [h]
    · rw [List.getElem?_eq_none (by simpa using hj)] at h
      simp at h
  obtain ⟨X, hX⟩ : ∃ X, X = (List.range n).map fun i => Value.int .u8 (zs.getD i 0) := ⟨_, rfl⟩
  rw [← hX] at hsrc
  have hXl : X.length = n := by rw [hX]; simp
  have hX1 : ∀ v ∈ X, v.oneCell' = true := by
    intro v hv
    rw [hX] at hv
    obtain ⟨i, _, rfl⟩ := List.mem_map.1 hv
    rfl
  have HX : Hid (X = (List.range n).map fun i => Value.int .u8 (zs.getD i 0)) := hX
  clear hX
  go_wp2_with (refine wpList_copy_own rfl _ _ 22 22 rfl 5 Yba.underlying22 Yba.sz5 w.heap.size 0 n n x n c rfl rfl cur 5 hcur.1 X (by rw [hXl]; exact (Nat.min_self n).symm) hsrc (by rw [hXl]; omega) hX1 ?_)
  go_ret
  have hset : (w1.setRow w.heap.size (X ++ cur.toList.drop n).toArray).heap[w.heap.size]? = some (.cells (X ++ cur.toList.drop n).toArray 5 (0, 0)) := setRow_heap _ _ _ _ _ _ hcur.1
  refine ⟨w.heap.size, rfl, Nat.le_refl _, (Array.getElem?_eq_some_iff.1 hset).1, fun i hi => ?_, below_setRow hB1 (Nat.le_refl _) _⟩
  have hXi : X[i]? = some (.int .u8 (zs.getD i 0)) := by
    rw [HX.out, List.getElem?_map, List.getElem?_range hi]; rfl
  simp only [World.cell?, hset, List.getElem?_toArray]
  rw [List.getElem?_append_left (by omega), hXi]
  rfl

/-- The two rows hold the same numbers: 'zzs1606aeq' says true. -/
theorem eq_any (a a' : Option Addr) (n c c' : Nat) (w : World) (hn : n ≤ 1024) (h : 0 < n → ∃ x y, a = some x ∧ a' = some y ∧ ∀ i, i < n → ∃ z : Int, w.cell? (x.add i) = some (.int .u8 z) ∧ w.cell? (y.add i) = some (.int .u8 z)) :
    Calls Yba.prog 7 #[.slice a n c, .slice a' n c'] w fun e w' => e = .returned (.bool true) ∧ Below w.heap.size w w' := by
  have hnn : ((n : Int) != (n : Int)) = false := by simp
  go_enter Yba.func7, Yba.ntmps7
  go_wp2
  go_loopw [5] (fun q wr => ∃ k : Nat, k ≤ n ∧ q = .int .i64 k ∧ Below w.heap.size w wr) (fun q _ => n - (intOf q).toNat)
  case atStart => exact ⟨0, Nat.zero_le _, rfl, Below.refl _ _⟩
  case round =>
    obtain ⟨k, hk, rfl, hB⟩ := hrel
    by_cases hlt : k < n
    · obtain ⟨x, y, rfl, rfl, hc⟩ := h (by omega)
      obtain ⟨z, h1, h2⟩ := hc k hlt
      have q1 := (hB.cell (World.block_lt_of_cell? w _ h1)).trans h1
      have q2 := (hB.cell (World.block_lt_of_cell? w _ h2)).trans h2
      have hlt' : (k : Int) < (n : Int) := by omega
      clear hc h1 h2
      go_wp2
      go_region_held3 (fun u => u.cell? (x.add k) = some (.int .u8 z) ∧ u.cell? (y.add k) = some (.int .u8 z)) (go_keep) (fail)
      go_wp2
      go_roundw
      case rel => exact ⟨k + 1, by omega, by go_num, hB.drew⟩
      case measure => simp [intOf]; omega
    · go_wp2
      go_ret
      exact ⟨rfl, hB⟩

theorem adv_neg (eb : Nat) (en : Int) (w : World) (h5 : w.cell? ⟨eb, 5, none⟩ = some (.int .i64 en)) (hn : en < 0) :
    Calls Yba.prog 6 #[.pointer (some ⟨eb, 0, none⟩)] w fun e w' => e = .returned (.bool false) ∧ w' = w := by
  go_enter Yba.func6, Yba.ntmps6
  go_wp2
  go_ret
  exact ⟨rfl, rfl⟩

theorem adv_pos (eb : Nat) (en at_ fi na nf : Int) (la : Option Addr) (ln lc : Nat) (nla : Option Addr) (nln nlc : Nat) (w : World) (h2 : w.cell? ⟨eb, 2, none⟩ = some (.int .i64 at_)) (h3 : w.cell? ⟨eb, 3, none⟩ = some (.int .i64 fi)) (h4 : w.cell? ⟨eb, 4, none⟩ = some (.slice la ln lc)) (h5 : w.cell? ⟨eb, 5, none⟩ = some (.int .i64 en))
    (h6 : w.cell? ⟨eb, 6, none⟩ = some (.int .i64 na)) (h7 : w.cell? ⟨eb, 7, none⟩ = some (.int .i64 nf)) (h8 : w.cell? ⟨eb, 8, none⟩ = some (.slice nla nln nlc)) (hf : ∀ t, w.frozen? ⟨eb, t, none⟩ = false) (hl : ln ≤ lc) (hn : 0 ≤ en) :
    Calls Yba.prog 6 #[.pointer (some ⟨eb, 0, none⟩)] w fun e w' => e = .returned (.bool true) ∧ w' = (((((w.setCell ⟨eb, 2, none⟩ (.int .i64 na)).setCell ⟨eb, 3, none⟩ (.int .i64 nf)).setCell ⟨eb, 4, none⟩ (.slice nla nln nlc)).setCell ⟨eb, 8, none⟩ (.slice la 0 lc)).setCell ⟨eb, 5, none⟩ (.int .i64 (-1))).drew := by
  have hn' : ¬ (en < 0) := by omega
  go_enter Yba.func6, Yba.ntmps6
  go_wp2
  go_region
  go_wp2
  go_ret
  exact ⟨rfl, rfl⟩

/-- A label's copy. -/
structure Cp (w : World) (base : Nat) (ao : Option Addr) (n : Nat) (zs : List Int) : Prop where
  at_ : 0 < n → ∃ g, ao = some ⟨g, 0, none⟩ ∧ base ≤ g ∧ g < w.heap.size ∧ ∀ i, i < n → w.cell? ⟨g, i, none⟩ = some (.int .u8 (zs.getD i 0))

theorem copy_any (a : Option Addr) (n c : Nat) (zs : List Int) (w : World) (hn : n ≤ 1024) (hz : a = none → n = 0 ∧ c = 0) (hc : ∀ x, a = some x → ∀ i, i < n → w.cell? (x.add i) = some (.int .u8 (zs.getD i 0))) :
    Calls Yba.prog 5 #[.slice a n c] w fun e w' => ∃ ao, e = .returned (.slice ao n n) ∧ Cp w' w.heap.size ao n zs ∧ Below w.heap.size w w' := by
  cases a with
  | none =>
    obtain ⟨rfl, rfl⟩ := hz rfl
    refine (copy_nil w).mono ?_
    rintro e w' ⟨rfl, rfl⟩
    exact ⟨none, rfl, ⟨fun h => absurd h (Nat.lt_irrefl _)⟩, Below.refl _ _⟩
  | some x =>
    refine (copy_some x n c zs w hn (hc x rfl)).mono ?_
    rintro e w' ⟨g, rfl, h1, h2, h3, h4⟩
    exact ⟨some ⟨g, 0, none⟩, rfl, ⟨fun _ => ⟨g, rfl, h1, h2, h3⟩⟩, h4⟩

theorem Cp.below {w w' : World} {base : Nat} {ao : Option Addr} {n : Nat} {zs : List Int} (h : Cp w base ao n zs) (hb : ∀ k, k < w.heap.size → base ≤ k → w'.heap[k]? = w.heap[k]?) (hs : w.heap.size ≤ w'.heap.size) : Cp w' base ao n zs :=
  ⟨fun h0 => by
    obtain ⟨g, h1, h2, h3, h4⟩ := h.at_ h0
    exact ⟨g, h1, h2, by omega, fun i hi => (World.cell?_of_block (w := w) (a := ⟨g, i, none⟩) (hb g h3 h2)).trans (h4 i hi)⟩⟩

theorem neq_ptr (w : World) (a : Addr) {tp te : TypeId} {j : TypeInfo} (hp : Yba.prog.underlying tp = some (.pointer te)) (hte : Yba.prog.info? te = some j) :
    (binOp .neq tp (.pointer (some a)) (.pointer (some a))).run Yba.prog w = .ok (.bool false) w := by
  have h : ∀ d : Nat, (Op.equalIn (d + 1) tp (.pointer (some a)) (.pointer (some a))).run Yba.prog w = .ok true w := fun d => by
    simp [Op.equalIn, run_underlying hp, sizeOf, typeInfo, hte, run_sameAddr_same]
  simp only [binOp]
  simp [Op.equal, Op.maxDepth, h 9999]

end Go.Proofs.Ybulkagfu

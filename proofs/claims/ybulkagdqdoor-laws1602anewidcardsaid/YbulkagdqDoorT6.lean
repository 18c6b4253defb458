import Derived.Test.YbulkagdqDoorT5
namespace Go.Proofs.YbulkagdqDoor
open Go.RowKit

/-- What 'zzs1602awithout' has gathered after k rounds. -/
def wo (l : List Rec) (i : Int) (k : Nat) : List Rec := if (k : Int) ≤ i ∨ i < 0 then l.take k else l.take i.toNat ++ (l.take k).drop (i.toNat + 1)
theorem wo_le (l : List Rec) (i : Int) (k : Nat) (hk : k ≤ l.length) : (wo l i k).length ≤ k := by
  unfold wo; split <;> simp <;> omega
theorem wo_zero (l : List Rec) (i : Int) : wo l i 0 = [] := by unfold wo; rw [if_pos (by omega)]; simp
theorem wo_hit (l : List Rec) (i : Int) (k : Nat) (h : (k : Int) = i) : wo l i (k + 1) = wo l i k := by
  subst h
  unfold wo
  rw [if_neg (by omega), if_pos (by omega)]
  simp
theorem wo_miss (l : List Rec) (i : Int) (k : Nat) (h : (k : Int) ≠ i) (hk : k < l.length) : wo l i (k + 1) = wo l i k ++ [l[k]] := by
  unfold wo
  by_cases h1 : (k : Int) ≤ i ∨ i < 0
  · rw [if_pos (by omega), if_pos h1, List.take_succ_eq_append_getElem hk]
  · rw [if_neg (by omega), if_neg h1, List.take_succ_eq_append_getElem hk, List.drop_append_of_le_length (by simp; omega), List.append_assoc]

theorem recCells_snoc (l : List Rec) (r : Rec) : recCells (l ++ [r]) = recCells l ++ [.int .u8 r.key, .int .u64 r.clk, .int .u64 r.n, .int .i64 r.s, .pointer none] := by
  simp [recCells, Rec.cells]

theorem new5 (w : World) (v0 v1 v2 v3 v4 : Value) (t : TypeId) : ∀ j u, [v0, v1, v2, v3, v4][j]? = some u → (w.alloc (.cells #[v0, v1, v2, v3, v4] t)).cell? ((⟨w.heap.size, 0, none⟩ : Addr).add j) = some u := by
  intro j u h
  have e : (⟨w.heap.size, 0, none⟩ : Addr).add j = ⟨w.heap.size, j, none⟩ := by unfold Addr.add; split <;> simp_all
  rw [e, World.cell?_alloc_new]
  simpa using h

set_option maxRecDepth 100000 in
set_option maxHeartbeats 1000000 in
theorem without_any (a : Option Addr) (n c : Nat) (i : Int) (l : List Rec) (w : World) (hn2 : n ≤ 2000) (hl : l.length = n) (hr : RecsAt w a l) :
    Calls Ybad.prog 15 #[.slice a n c, .int .i64 i] w fun e w' => ∃ v, e = .returned v ∧ w'.ownsRow w.heap.size 31 5 v (wo l i n).length (recCells (wo l i n)) ∧ Below w.heap.size w w' := by
  obtain ⟨i0, hi, hz0, hz1, hz2⟩ := info_parts Ybad.info31
  have e1 : ((n + 1 : Nat) : Int) = (n : Int) + 1 := by omega
  go_enter Ybad.func15, Ybad.ntmps15
  go_wp2_with (at_make; refine wpList_make_own _ rfl _ _ 25 rfl w.heap.size 31 i0 _ 5 Ybad.underlying25 hi hz0 hz1 .i64 .i64 _ (n + 1) rfl rfl (by omega) (by rw [hz2]; omega) (by unfold maxLen; omega) (Nat.le_refl _) ?_)
  intro w1 hown hg
  go_wp2
  go_loopw [5, 14] (fun v q wr => ∃ (k : Nat), k ≤ n ∧ q = .int .i64 k ∧ wr.ownsRow w.heap.size 31 5 v (wo l i k).length (recCells (wo l i k)) ∧ Below w.heap.size w wr) (fun _ q _ => n - (intOf q).toNat)
  case atStart => exact ⟨0, Nat.zero_le _, rfl, by rw [wo_zero]; exact hown, (Below.refl _ _).grown hg (Nat.le_refl _) (fun _ h => by cases h)⟩
  case round =>
    obtain ⟨k, hk, rfl, how, hbl⟩ := hrel
    obtain ⟨ao, cp, rfl⟩ := ownsRow_shape how
    have hsz := hbl.size
    by_cases hlt : k < n
    · obtain ⟨b, off, ha, hb, hrc⟩ := hr (by omega)
      subst ha
      have q := (hrc k (by omega)).of_block (hbl.block b hb)
      have W1 := wo_hit l i k
      have W2 := fun h => wo_miss l i k h (by omega)
      have W3 := wo_le l i k (by omega)
      obtain ⟨r, hre⟩ : ∃ r, l[k] = r := ⟨_, rfl⟩
      rw [hre] at q W2
      obtain ⟨q0, q1, q2, q3, q4⟩ := q
      have hbw : b < wr.heap.size := by omega
      clear hrc hre hr hg hown
      by_cases hki : (k : Int) = i
      · have H : Hid (wr.ownsRow w.heap.size 31 5 (.slice ao (wo l i k).length cp) (wo l i (k + 1)).length (recCells (wo l i (k + 1)))) := by rw [W1 hki]; exact how
        have hne : ((k : Int) != i) = false := by simp [hki]
        clear hki how W1 W2
        go_wp2
        go_roundw
        case rel => exact ⟨k + 1, by omega, by go_num, H.out.alloc _, hbl.alloc hsz _⟩
        case measure => simp [intOf]; omega
      · have W2 := W2 hki
        have hne : ((k : Int) != i) = true := by simp [hki]
        have HW : Hid (wo l i (k + 1) = wo l i k ++ [r]) := W2
        clear W2 W1 hki
        generalize wo l i k = l1 at *
        go_wp2_with (at_builtin; refine wpList_append_own _ rfl _ _ 25 rfl w.heap.size 31 i0 _ 5 40 Ybad.underlying25 hi hz0 hz1 hz2 rfl (by decide) _ _ _ rfl ((how.alloc _).alloc _) ⟨wr.heap.size + 1, 0, none⟩ 1 1 [.int .u8 r.key, .int .u64 r.clk, .int .u64 r.n, .int .i64 r.s, .pointer none] rfl rfl ?c1 ?c2 ?c3 ?c4 ?c5 ?_)
        case c1 => have h := new5 (wr.alloc (.cells #[.int .u8 r.key, .int .u64 r.clk, .int .u64 r.n, .int .i64 r.s, .pointer none] 31)) (.int .u8 r.key) (.int .u64 r.clk) (.int .u64 r.n) (.int .i64 r.s) (.pointer none) 31; simpa using h
        case c2 => intro u hu; simp at hu; rcases hu with rfl | rfl | rfl | rfl | rfl <;> rfl
        case c3 => unfold maxLen; omega
        case c4 => omega
        case c5 => simp; omega
        intro v' w2 hown' hgrow _
        have H : Hid (w2.ownsRow w.heap.size 31 5 v' (l1 ++ [r]).length (recCells (l1 ++ [r])) ∧ Below w.heap.size w w2) := by
          show _ ∧ _
          refine ⟨by rw [recCells_snoc]; simpa using hown', ((hbl.alloc hsz _).alloc (by simp; omega) _).grown hgrow (by simp; omega) (fun j hj => ((how.lt j hj).1))⟩
        clear hown' hgrow how
        go_wp2
        go_roundw
        case rel => exact ⟨k + 1, by omega, by go_num, by rw [HW.out]; exact H.out.1, H.out.2⟩
        case measure => simp [intOf]; omega
    · go_wp2
      go_ret
      obtain rfl : k = n := by omega
      exact ⟨_, rfl, how, hbl⟩

end Go.Proofs.YbulkagdqDoor

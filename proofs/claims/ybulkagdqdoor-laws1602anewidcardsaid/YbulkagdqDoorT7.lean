import Derived.Test.YbulkagdqDoorT6
namespace Go.Proofs.YbulkagdqDoor
open Go.RowKit

set_option maxHeartbeats 400000 in
theorem bequal_any (b off n c b' off' n' c' : Nat) (xs ys : List Int) (w : World) (hx : xs.length = n) (hy : ys.length = n')
    (h1 : ∀ i, i < n → w.cell? ⟨b, off + i, none⟩ = some (.int .u8 (xs.getD i 0))) (h2 : ∀ i, i < n' → w.cell? ⟨b', off' + i, none⟩ = some (.int .u8 (ys.getD i 0))) :
    Calls Ybad.prog 11 #[.slice (some ⟨b, off, none⟩) n c, .slice (some ⟨b', off', none⟩) n' c'] w fun e w' => e = .returned (.bool ((strOfNums xs).toList == (strOfNums ys).toList)) ∧ w' = w := by
  have k1 := run_convert_bytes_arg (P := Ybad.prog) w 22 5 Ybad.underlying22 Ybad.underlying5 b off n c xs hx h1 9 Ybad.underlying9
  have k2 := run_convert_bytes_arg (P := Ybad.prog) w 22 5 Ybad.underlying22 Ybad.underlying5 b' off' n' c' ys hy h2 9 Ybad.underlying9
  go_enter Ybad.func11, Ybad.ntmps11
  go_wp2
  go_ret
  exact ⟨rfl, rfl⟩

theorem toListD (s : ByteArray) : s.toList = s.data.toList := ByteArray.toList_eq s
theorem u8_of_eq (a b : Nat) (ha : a < 256) (hb : b < 256) : (UInt8.ofNat a == UInt8.ofNat b) = (a == b) := by
  rw [Bool.eq_iff_iff]
  simp only [beq_iff_eq]
  constructor
  · intro h
    have := congrArg UInt8.toNat h
    simp at this
    omega
  · rintro rfl; rfl
theorem beq11 (b c b' c' x y : Nat) (w : World) (hx : x < 256) (hy : y < 256) (h1 : w.cell? ⟨b, 0, none⟩ = some (.int .u8 x)) (h2 : w.cell? ⟨b', 0, none⟩ = some (.int .u8 y)) :
    Calls Ybad.prog 11 #[.slice (some ⟨b, 0, none⟩) 1 c, .slice (some ⟨b', 0, none⟩) 1 c'] w fun e w' => e = .returned (.bool (x == y)) ∧ w' = w := by
  refine (bequal_any b 0 1 c b' 0 1 c' [(x : Int)] [(y : Int)] w rfl rfl (fun i hi => ?_) (fun i hi => ?_)).mono fun e w' ⟨he, hw⟩ => ⟨?_, hw⟩
  · obtain rfl : i = 0 := by omega
    simpa using h1
  · obtain rfl : i = 0 := by omega
    simpa using h2
  · rw [he]
    have e1 : ((strOfNums [(x : Int)]).toList == (strOfNums [(y : Int)]).toList) = (UInt8.ofNat x == UInt8.ofNat y) := by
      rw [toListD, toListD]
      show ([UInt8.ofNat x] == [UInt8.ofNat y]) = _
      simp
    rw [e1, u8_of_eq x y hx hy]
theorem beq21 (b c b' c' x y : Nat) (w : World) (h1 : w.cell? ⟨b, 0, none⟩ = some (.int .u8 x)) (h1' : w.cell? ⟨b, 1, none⟩ = some (.int .u8 0)) (h2 : w.cell? ⟨b', 0, none⟩ = some (.int .u8 y)) :
    Calls Ybad.prog 11 #[.slice (some ⟨b, 0, none⟩) 2 c, .slice (some ⟨b', 0, none⟩) 1 c'] w fun e w' => e = .returned (.bool false) ∧ w' = w := by
  refine (bequal_any b 0 2 c b' 0 1 c' [(x : Int), 0] [(y : Int)] w rfl rfl (fun i hi => ?_) (fun i hi => ?_)).mono fun e w' ⟨he, hw⟩ => ⟨?_, hw⟩
  · rcases (show i = 0 ∨ i = 1 by omega) with rfl | rfl
    · simpa using h1
    · simpa using h1'
  · obtain rfl : i = 0 := by omega
    simpa using h2
  · rw [he]
    have e1 : ((strOfNums [(x : Int), 0]).toList == (strOfNums [(y : Int)]).toList) = false := by
      rw [toListD, toListD]
      show ([UInt8.ofNat x, UInt8.ofNat 0] == [UInt8.ofNat y]) = _
      simp
    rw [e1]
theorem beq22 (b c b' c' x : Nat) (w : World) (h1 : w.cell? ⟨b, 0, none⟩ = some (.int .u8 x)) (h1' : w.cell? ⟨b, 1, none⟩ = some (.int .u8 0)) (h2 : w.cell? ⟨b', 0, none⟩ = some (.int .u8 x)) (h2' : w.cell? ⟨b', 1, none⟩ = some (.int .u8 0)) :
    Calls Ybad.prog 11 #[.slice (some ⟨b, 0, none⟩) 2 c, .slice (some ⟨b', 0, none⟩) 2 c'] w fun e w' => e = .returned (.bool true) ∧ w' = w := by
  refine (bequal_any b 0 2 c b' 0 2 c' [(x : Int), 0] [(x : Int), 0] w rfl rfl (fun i hi => ?_) (fun i hi => ?_)).mono fun e w' ⟨he, hw⟩ => ⟨?_, hw⟩
  · rcases (show i = 0 ∨ i = 1 by omega) with rfl | rfl
    · simpa using h1
    · simpa using h1'
  · rcases (show i = 0 ∨ i = 1 by omega) with rfl | rfl
    · simpa using h2
    · simpa using h2'
  · rw [he, beq_self_eq_true]

set_option maxRecDepth 100000 in
set_option maxHeartbeats 400000 in
theorem clone_any (b n c : Nat) (xs : List Value) (w : World) (hn : 0 < n) (hn2 : n ≤ 2) (hx : xs.length = n) (h1 : ∀ j u, xs[j]? = some u → w.cell? ⟨b, j, none⟩ = some u) (h8 : ∀ u ∈ xs, u.oneCell' = true) (hb : b < w.heap.size) :
    Calls Ybad.prog 26 #[.slice (some ⟨b, 0, none⟩) n c] w fun e w' => ∃ v, e = .returned v ∧ v ≠ .slice none 0 0 ∧ w'.ownsRow w.heap.size 5 1 v n xs ∧ Below w.heap.size w w' := by
  obtain ⟨i0, hi, hz0, hz1, hz2⟩ := info_parts Ybad.info5
  have hnil := fun wx => Lib.run_eql_slice_nil (P := Ybad.prog) wx 22 5 (some ⟨b, 0, none⟩) n c 0 0 Ybad.underlying22
  go_enter Ybad.func26, Ybad.ntmps26
  go_wp2_with (at_builtin; refine wpList_append_own _ rfl _ _ 22 rfl w.heap.size 5 i0 (.int .u8 0) 1 1 Ybad.underlying22 hi hz0 hz1 hz2 rfl (by decide) _ _ _ rfl (World.ownsRow_lit (base := w.heap.size) (size := 1) w #[] 0 (Nat.le_refl _) (by unfold maxLen; omega) rfl) ⟨b, 0, none⟩ n c xs rfl ?c0 ?c1 ?c2 ?c3 ?c4 ?c5 ?_)
  case c0 => omega
  case c1 =>
    intro j u hj
    have e : (⟨b, 0, none⟩ : Addr).add j = ⟨b, j, none⟩ := by unfold Addr.add; split <;> simp_all
    rw [e, World.cell?_alloc_past _ _ _ hb]
    exact h1 j u hj
  case c2 => exact h8
  case c3 => unfold maxLen; omega
  case c4 => omega
  case c5 => simp
  intro v' w2 hown' hgrow hnn
  have H : Hid (v' ≠ .slice none 0 0 ∧ w2.ownsRow w.heap.size 5 1 v' n xs ∧ Below w.heap.size w w2) := by
    refine ⟨hnn, by simpa using hown', ((Below.refl _ _).alloc (Nat.le_refl _) _).grown hgrow (by simp) (fun j hj => ?_)⟩
    simp [Value.ownBlock] at hj; omega
  clear hown' hgrow hnn
  go_wp2
  go_ret
  exact ⟨_, rfl, H.out.1, H.out.2.1, H.out.2.2⟩

/-- An owned row of bytes that is not nil, written out. -/
theorem own_form {w : World} {base : Nat} {e : TypeId} {size n : Nat} {v : Value} {xs : List Value} (h : w.ownsRow base e size v n xs) (hv : v ≠ .slice none 0 0) : ∃ g cap cur, v = .slice (some ⟨g, 0, none⟩) n cap ∧ base ≤ g ∧ w.heap[g]? = some (.cells cur e (0, 0)) ∧ n ≤ cap ∧ cur.toList.take (n * size) = xs := by
  rcases h.2 with ⟨h1, _⟩ | ⟨g, cap, cur, h1, h2, h3, h4, _, _, h7⟩
  · exact absurd h1 hv
  · exact ⟨g, cap, cur, h1, h2, h3, h4, h7⟩

theorem clone1 (b c key : Nat) (w : World) (h1 : w.cell? ⟨b, 0, none⟩ = some (.int .u8 key)) :
    Calls Ybad.prog 26 #[.slice (some ⟨b, 0, none⟩) 1 c] w fun e w' => ∃ g cap, e = .returned (.slice (some ⟨g, 0, none⟩) 1 cap) ∧ w.heap.size ≤ g ∧ IdAt w' g cap key ∧ Below w.heap.size w w' := by
  refine (clone_any b 1 c [.int .u8 key] w (by omega) (by omega) rfl (fun j u hj => ?_) (fun u hu => ?_) (lt_of_cell h1)).mono fun e w' ⟨v, he, hv, how, hb⟩ => ?_
  · match j, hj with
    | 0, hj => simp at hj; subst hj; exact h1
    | j + 1, hj => simp at hj
  · simp at hu; subst hu; rfl
  · obtain ⟨g, cap, cur, rfl, hg, hh, hc, ht⟩ := own_form how hv
    refine ⟨g, cap, he, hg, ⟨⟨cur, hh, ?_⟩, hc⟩, hb⟩
    have := congrArg (fun l => l[0]?) ht
    simpa using this
theorem clone2 (b c key : Nat) (w : World) (h1 : w.cell? ⟨b, 0, none⟩ = some (.int .u8 key)) (h2 : w.cell? ⟨b, 1, none⟩ = some (.int .u8 0)) :
    Calls Ybad.prog 26 #[.slice (some ⟨b, 0, none⟩) 2 c] w fun e w' => ∃ g cap, e = .returned (.slice (some ⟨g, 0, none⟩) 2 cap) ∧ w.heap.size ≤ g ∧ w'.cell? ⟨g, 0, none⟩ = some (.int .u8 key) ∧ w'.cell? ⟨g, 1, none⟩ = some (.int .u8 0) ∧ Below w.heap.size w w' := by
  refine (clone_any b 2 c [.int .u8 key, .int .u8 0] w (by omega) (by omega) rfl (fun j u hj => ?_) (fun u hu => ?_) (lt_of_cell h1)).mono fun e w' ⟨v, he, hv, how, hb⟩ => ?_
  · match j, hj with
    | 0, hj => simp at hj; subst hj; exact h1
    | 1, hj => simp at hj; subst hj; exact h2
    | j + 2, hj => simp at hj
  · simp at hu; rcases hu with rfl | rfl <;> rfl
  · obtain ⟨g, cap, cur, rfl, hg, hh, hc, ht⟩ := own_form how hv
    refine ⟨g, cap, he, hg, ?_, ?_, hb⟩
    · rw [how.cellAt 0 (by omega)]; rfl
    · rw [how.cellAt 1 (by omega)]; rfl

end Go.Proofs.YbulkagdqDoor

import Derived.Test.YbulkaggiBh
import Derived.Test.YbulkaggiE9
import Derived.Deep.RegionHeld3
namespace Go.Proofs.Ybulkaggi.BM
open Go.RowKit Go.Proofs.Ybulkaggi Go.Sort Go.Shelf Go.Lib
set_option linter.unusedVariables false
set_option maxRecDepth 100000

/-! ### cmp.Compare at kinds -/
theorem nan_kind (x : ByteArray) (w : World) : Calls Yba.prog 65 #[.string x] w fun e w' => e = .returned (.bool false) ∧ w' = w := by
  go_enter Yba.func65, Yba.ntmps65
  go_wp2
  go_ret
  exact ⟨by simp, rfl⟩
theorem cmp_kind (x y : ByteArray) (w : World) : Calls Yba.prog 37 #[.string x, .string y] w fun e w' => e = .returned (.int .i64 (cmpS x.toList y.toList)) ∧ w' = w := by
  go_enter Yba.func37, Yba.ntmps37
  go_wp2_with (go_at_call 65; refine (nan_kind _ _).mono ?_; rintro e w' ⟨rfl, hw⟩; rw [hw])
  · rename_i h
    go_ret
    rw [bytesLess_eq] at h
    have h' := of_decide_eq_true h
    exact ⟨by simp only [cmpS, if_pos h']; rfl, rfl⟩
  · rename_i h1 _ _ h2
    go_ret
    rw [bytesLess_eq] at h1
    have h1' := of_decide_eq_false h1
    have h2' : ¬ x.toList = y.toList := by simpa using h2
    exact ⟨by simp only [cmpS, if_neg h1', if_neg h2']; rfl, rfl⟩
  · rename_i h1 h2
    go_ret
    rw [bytesLess_eq] at h1
    have h1' := of_decide_eq_false h1
    have h2' : x.toList = y.toList := by simpa using h2
    exact ⟨by simp only [cmpS, if_neg h1', if_pos h2']; rfl, rfl⟩

/-! ### slices.Compare at strings -/
def cmpL : List ByteArray → List ByteArray → Int
  | [], [] => 0
  | [], _ :: _ => -1
  | _ :: _, [] => 1
  | x :: xs, y :: ys => orI (cmpS x.toList y.toList) (cmpL xs ys)
theorem cmpL_step (xs ys : List ByteArray) : ∀ (k : Nat), k ≤ xs.length → k ≤ ys.length → (∀ i (h1 : i < xs.length) (h2 : i < ys.length), i < k → cmpS xs[i].toList ys[i].toList = 0) → cmpL xs ys = cmpL (xs.drop k) (ys.drop k)
  | 0, _, _, _ => by simp
  | k + 1, h1, h2, h => by
    rw [cmpL_step xs ys k (by omega) (by omega) (fun i a b c => h i a b (by omega)), List.drop_eq_getElem_cons (i := k) (by omega), List.drop_eq_getElem_cons (l := ys) (i := k) (by omega)]
    show orI _ _ = _
    rw [h k (by omega) (by omega) (by omega)]
    rfl
set_option maxHeartbeats 1000000 in
theorem slices_cmp (g g' n n' c c' : Nat) (xs ys : List ByteArray) (w : World) (hx : xs.length = n) (hy : ys.length = n') (hn : n ≤ 2) (hn' : n' ≤ 2) (h1 : ∀ i (h : i < xs.length), w.cell? ⟨g, i, none⟩ = some (.string xs[i])) (h2 : ∀ i (h : i < ys.length), w.cell? ⟨g', i, none⟩ = some (.string ys[i])) :
    Calls Yba.prog 38 #[.slice (some ⟨g, 0, none⟩) n c, .slice (some ⟨g', 0, none⟩) n' c'] w fun e w' => e = .returned (.int .i64 (cmpL xs ys)) ∧ w' = w := by
  have H1 := hide h1
  have H2 := hide h2
  have HX := hide hx
  have HY := hide hy
  clear h1 h2 hx hy
  obtain ⟨r, hr⟩ : ∃ r, r = cmpL xs ys := ⟨_, rfl⟩
  have HR := hide hr
  rw [← hr]
  clear hr
  go_enter Yba.func38, Yba.ntmps38
  go_wp2
  go_loopw [11] (fun q wr => ∃ k : Nat, k ≤ n ∧ k ≤ n' ∧ q = .int .i64 (k : Int) ∧ (∀ i (a : i < xs.length) (b : i < ys.length), i < k → cmpS xs[i].toList ys[i].toList = 0) ∧ wr = w) (fun q _ => n - (intOf q).toNat)
  case atStart => exact ⟨0, by omega, by omega, rfl, fun i a b e => by omega, rfl⟩
  case round =>
    obtain ⟨k, hk, hk', rfl, ha, hw⟩ := hrel
    obtain rfl := hw.symm
    have ST := hide (cmpL_step xs ys k (by rw [HX.out]; exact hk) (by rw [HY.out]; exact hk') ha)
    have HA := hide ha
    clear ha
    by_cases hkn : k < n
    · have hkn' : (k : Int) < (n : Int) := by omega
      have kx : k < xs.length := by rw [HX.out]; exact hkn
      have c1 := H1.out k kx
      by_cases hkm : k < n'
      · have hkm' : ¬ (n' : Int) ≤ (k : Int) := by omega
        have hkm2 : (k : Int) < (n' : Int) := by omega
        have ky : k < ys.length := by rw [HY.out]; exact hkm
        have c2 := H2.out k ky
        have ST2 := hide (show r = orI (cmpS xs[k].toList ys[k].toList) (cmpL (xs.drop (k + 1)) (ys.drop (k + 1))) by
          rw [HR.out, ST.out, List.drop_eq_getElem_cons kx, List.drop_eq_getElem_cons ky]
          rfl)
        have HN := hide (show cmpS xs[k].toList ys[k].toList = 0 → ∀ i (a : i < xs.length) (b : i < ys.length), i < k + 1 → cmpS xs[i].toList ys[i].toList = 0 from fun e i a b h => by
          by_cases e2 : i = k
          · subst e2; exact e
          · exact HA.out i a b (by omega))
        clear HA ST
        generalize xs[k] = x at *
        generalize ys[k] = y at *
        by_cases p : cmpS x.toList y.toList = 0
        · have HP := hide (HN.out p)
          clear HN ST2
          go_wp2_with (go_at_call 27; refine (cmp_str _ _ _).mono ?_; rintro e w' ⟨rfl, hw⟩; obtain rfl := hw.symm)
          go_roundw
          case rel => exact ⟨k + 1, by omega, by omega, by go_num, HP.out, by first | rfl | trivial⟩
          case measure => simp [intOf]; omega
        · have ST3 := hide (show r = cmpS x.toList y.toList by rw [ST2.out]; unfold orI; rw [if_neg p])
          clear HN ST2
          go_wp2_with (go_at_call 27; refine (cmp_str _ _ _).mono ?_; rintro e w' ⟨rfl, hw⟩; obtain rfl := hw.symm)
          go_ret
          exact ⟨congrArg (fun z => Ending.returned (Value.int .i64 z)) ST3.out.symm, rfl⟩
      · have hkm' : (n' : Int) ≤ (k : Int) := by omega
        have ST2 := hide (show r = 1 by
          rw [HR.out, ST.out, List.drop_eq_getElem_cons kx, List.drop_of_length_le (l := ys) (by rw [HY.out]; omega)]
          rfl)
        clear ST HA
        go_wp2
        go_ret
        exact ⟨congrArg (fun z => Ending.returned (Value.int .i64 z)) ST2.out.symm, rfl⟩
    · have hkn' : ¬ (k : Int) < (n : Int) := by omega
      obtain rfl : k = n := by omega
      by_cases hkm : k < n'
      · have hkm' : (k : Int) < (n' : Int) := by omega
        have ST2 := hide (show r = -1 by
          rw [HR.out, ST.out, List.drop_of_length_le (l := xs) (by rw [HX.out]; omega), List.drop_eq_getElem_cons (l := ys) (i := k) (by rw [HY.out]; exact hkm)]
          rfl)
        clear ST HA
        go_wp2
        go_ret
        exact ⟨congrArg (fun z => Ending.returned (Value.int .i64 z)) ST2.out.symm, rfl⟩
      · have hkm' : ¬ (k : Int) < (n' : Int) := by omega
        have ST2 := hide (show r = 0 by
          rw [HR.out, ST.out, List.drop_of_length_le (l := xs) (by rw [HX.out]; omega), List.drop_of_length_le (l := ys) (by rw [HY.out]; omega)]
          rfl)
        clear ST HA
        go_wp2
        go_ret
        exact ⟨congrArg (fun z => Ending.returned (Value.int .i64 z)) ST2.out.symm, rfl⟩

/-! ### cmp.Or at four -/
set_option maxHeartbeats 1000000 in
theorem or_four (g : Nat) (x y z u : Int) (w : World) (h0 : w.cell? ⟨g, 0, none⟩ = some (.int .i64 x)) (h1 : w.cell? ⟨g, 1, none⟩ = some (.int .i64 y)) (h2 : w.cell? ⟨g, 2, none⟩ = some (.int .i64 z)) (h3 : w.cell? ⟨g, 3, none⟩ = some (.int .i64 u)) :
    Calls Yba.prog 11 #[.slice (some ⟨g, 0, none⟩) 4 4] w fun e w' => e = .returned (.int .i64 (orI x (orI y (orI z u)))) ∧ w' = w := by
  go_enter Yba.func11, Yba.ntmps11
  go_wp2
  go_loopw [8] (fun q wr => ∃ k : Nat, k ≤ 4 ∧ q = .int .i64 k ∧ (0 < k → x = 0) ∧ (1 < k → y = 0) ∧ (2 < k → z = 0) ∧ (3 < k → u = 0) ∧ wr = w) (fun q _ => 4 - (intOf q).toNat)
  case atStart => exact ⟨0, by omega, rfl, fun h => absurd h (by omega), fun h => absurd h (by omega), fun h => absurd h (by omega), fun h => absurd h (by omega), rfl⟩
  case round =>
    obtain ⟨k, hk, rfl, hx, hy, hz, hu, hw⟩ := hrel
    obtain rfl := hw.symm
    rcases (by omega : k = 0 ∨ k = 1 ∨ k = 2 ∨ k = 3 ∨ k = 4) with rfl | rfl | rfl | rfl | rfl
    · by_cases hx0 : x = 0
      · subst hx0
        go_wp2
        go_roundw
        case rel => exact ⟨1, by omega, by go_num, fun _ => (by first | rfl | trivial), fun h => absurd h (by omega), fun h => absurd h (by omega), fun h => absurd h (by omega), by first | rfl | trivial⟩
        case measure => simp [intOf]
      · go_wp2
        go_ret
        exact ⟨by unfold orI; rw [if_neg hx0]; rfl, rfl⟩
    · obtain rfl := hx (by omega)
      by_cases hy0 : y = 0
      · subst hy0
        go_wp2
        go_roundw
        case rel => exact ⟨2, by omega, by go_num, fun _ => (by first | rfl | trivial), fun _ => (by first | rfl | trivial), fun h => absurd h (by omega), fun h => absurd h (by omega), by first | rfl | trivial⟩
        case measure => simp [intOf]
      · go_wp2
        go_ret
        exact ⟨by unfold orI; rw [if_pos rfl, if_neg hy0]; rfl, rfl⟩
    · obtain rfl := hx (by omega)
      obtain rfl := hy (by omega)
      by_cases hz0 : z = 0
      · subst hz0
        go_wp2
        go_roundw
        case rel => exact ⟨3, by omega, by go_num, fun _ => (by first | rfl | trivial), fun _ => (by first | rfl | trivial), fun _ => (by first | rfl | trivial), fun h => absurd h (by omega), by first | rfl | trivial⟩
        case measure => simp [intOf]
      · go_wp2
        go_ret
        exact ⟨by simp [orI, hz0], rfl⟩
    · obtain rfl := hx (by omega)
      obtain rfl := hy (by omega)
      obtain rfl := hz (by omega)
      by_cases hu0 : u = 0
      · subst hu0
        go_wp2
        go_roundw
        case rel => exact ⟨4, by omega, by go_num, fun _ => (by first | rfl | trivial), fun _ => (by first | rfl | trivial), fun _ => (by first | rfl | trivial), fun _ => (by first | rfl | trivial), by first | rfl | trivial⟩
        case measure => simp [intOf]
      · go_wp2
        go_ret
        exact ⟨by simp [orI], rfl⟩
    · obtain rfl := hx (by omega)
      obtain rfl := hy (by omega)
      obtain rfl := hz (by omega)
      obtain rfl := hu (by omega)
      go_wp2
      go_ret
      exact ⟨by simp [orI], rfl⟩

/-! ### The keys -/
abbrev Key0 : Type := Nat × Int × Int × List ByteArray
abbrev KN : Type := List UInt8 × Int × Int × List UInt8 × Int × List UInt8
def kn (x : Key0) : KN := ((kB x.1).toList, x.2.1, x.2.2.1, (x.2.2.2.getD 0 ⟨#[]⟩).toList, (x.2.2.2.length : Int), (x.2.2.2.getD 1 ⟨#[]⟩).toList)
def cmpN (x y : KN) : Int := orI (cmpS x.1 y.1) (orI (cmpI x.2.1 y.2.1) (orI (cmpI x.2.2.1 y.2.2.1) (orI (cmpS x.2.2.2.1 y.2.2.2.1) (orI (cmpI x.2.2.2.2.1 y.2.2.2.2.1) (cmpS x.2.2.2.2.2 y.2.2.2.2.2)))))
theorem cmpN_three : Cmp3 cmpN := Cmp3.lex (cmpS_three fun x : KN => x.1) (Cmp3.lex (cmpI_three fun x : KN => x.2.1) (Cmp3.lex (cmpI_three fun x : KN => x.2.2.1) (Cmp3.lex (cmpS_three fun x : KN => x.2.2.2.1) (Cmp3.lex (cmpI_three fun x : KN => x.2.2.2.2.1) (cmpS_three fun x : KN => x.2.2.2.2.2)))))
theorem cmpN_zero (x y : KN) (h : cmpN x y = 0) : x = y := by
  obtain ⟨h1, h⟩ := orI_zero h
  obtain ⟨h2, h⟩ := orI_zero h
  obtain ⟨h3, h⟩ := orI_zero h
  obtain ⟨h4, h⟩ := orI_zero h
  obtain ⟨h5, h6⟩ := orI_zero h
  obtain ⟨a, b, c, d, e, f⟩ := x
  obtain ⟨a', b', c', d', e', f'⟩ := y
  have e1 := (cmpS_val _ _).2.1.1 h1
  have e2 := cmpI_zero h2
  have e3 := cmpI_zero h3
  have e4 := (cmpS_val _ _).2.1.1 h4
  have e5 := cmpI_zero h5
  have e6 := (cmpS_val _ _).2.1.1 h6
  simp only at e1 e2 e3 e4 e5 e6
  subst e1; subst e2; subst e3; subst e4; subst e5; subst e6
  rfl
theorem cmpL_key : ∀ (xs ys : List ByteArray), (xs.length = 1 ∨ xs.length = 2) → (ys.length = 1 ∨ ys.length = 2) → cmpL xs ys = orI (cmpS (xs.getD 0 ⟨#[]⟩).toList (ys.getD 0 ⟨#[]⟩).toList) (orI (cmpI (xs.length : Int) (ys.length : Int)) (cmpS (xs.getD 1 ⟨#[]⟩).toList (ys.getD 1 ⟨#[]⟩).toList))
  | [x], [y], _, _ => by
    show orI _ 0 = _
    have : cmpS [] [] = 0 := cmpS_self _
    simp [cmpI, orI, this]
  | [x], [y, z], _, _ => by
    show orI _ (-1) = _
    simp [cmpI, orI]
  | [x, x'], [y], _, _ => by
    show orI _ 1 = _
    simp [cmpI, orI]
  | [x, x'], [y, y'], _, _ => by
    show orI _ (orI _ 0) = orI _ (orI (cmpI 2 2) _)
    have e : ∀ z : Int, orI z 0 = z := fun z => by unfold orI; split <;> omega
    rw [e]
    rfl
  | [], _, h, _ => by simp at h
  | _ :: _ :: _ :: _, _, h, _ => by simp at h
  | [_], [], _, h => by simp at h
  | [_], _ :: _ :: _ :: _, _, h => by simp at h
  | [_, _], [], _, h => by simp at h
  | [_, _], _ :: _ :: _ :: _, _, h => by simp at h
def An2.k0 (x : An2) : Key0 := (x.k, x.a, x.b, x.is)
theorem cmpN_eq (x y : An2) (hx : x.is.length = 1 ∨ x.is.length = 2) (hy : y.is.length = 1 ∨ y.is.length = 2) : cmpN (kn x.k0) (kn y.k0) = orI (cmpS (kB x.k).toList (kB y.k).toList) (orI (cmpI x.a y.a) (orI (cmpI x.b y.b) (cmpL x.is y.is))) := by
  rw [cmpL_key _ _ hx hy]
  rfl
end Go.Proofs.Ybulkaggi.BM

import Derived.Test.YbulkagdqDoorT7
import Derived.Deep.RegionLaw
import Derived.Lib.SliceRun
namespace Go.Proofs.YbulkagdqDoor
open Go.RowKit

def entZero : List Value := [.slice none 0 0, .int .u64 0, .nilIface, .int .u64 0, .int .i64 0, .pointer none]
theorem clear_one (w : World) (ty : TypeId) (b o c : Nat) (hc : ∀ j, j < 6 → (w.cell? ⟨b, o + j, none⟩).isSome = true) (hf : ∀ j, j < 6 → w.frozen? ⟨b, o + j, none⟩ = false) :
    (Builtin.clear_ #[33] ty #[.slice (some ⟨b, o, none⟩) 1 c]).run Ybad.prog w = .ok (.tuple #[]) (w.setCells b o entZero) := by
  have hv : ∀ w, (zeroValue 60).run Ybad.prog w = .ok (.agg entZero.toArray) w := fun w => by kernel_rfl
  have hzc : (Builtin.zeroCells (Value.cells (.agg entZero.toArray)) 1).toList = entZero := by kernel_rfl
  have hst := run_storeCells_cells (P := Ybad.prog) b o entZero 0 w (by simpa [entZero] using hc) (by simpa [entZero] using hf) (by intro v hv'; simp [entZero] at hv'; rcases hv' with rfl | rfl | rfl | rfl | rfl | rfl <;> rfl)
  simp only [Nat.add_zero] at hst
  simp [Builtin.clear_, run_underlying Ybad.underlying33, hv, hzc, hst]

theorem Kp.setCells {D : List Nat} {a : World} {b : Nat} (hb : b ∈ D) : ∀ (vs : List Value) (o : Nat) {w : World}, Kp D a w → Kp D a (w.setCells b o vs)
  | [], _, _, h => h
  | _ :: r, o, _, h => Kp.setCells hb r (o + 1) (h.setCell hb _)
def lset (xs : List Value) : Nat → List Value → List Value
  | _, [] => xs
  | o, v :: r => lset (xs.set o v) (o + 1) r
theorem own_setCells {base g n cap : Nat} {e : TypeId} {size : Nat} : ∀ (vs : List Value) (o : Nat) {w : World} {xs : List Value}, w.ownsRow base e size (.slice (some ⟨g, 0, none⟩) n cap) n xs → (w.setCells g o vs).ownsRow base e size (.slice (some ⟨g, 0, none⟩) n cap) n (lset xs o vs)
  | [], _, _, _, h => h
  | v :: r, o, _, _, h => own_setCells r (o + 1) (h.stored o v).1
theorem lset_length : ∀ (vs : List Value) (xs : List Value) (o : Nat), (lset xs o vs).length = xs.length
  | [], _, _ => rfl
  | v :: r, xs, o => by rw [lset, lset_length r]; simp
theorem lset_mid : ∀ (vs A M R : List Value) (o : Nat), A.length = o → M.length = vs.length → lset (A ++ M ++ R) o vs = A ++ vs ++ R
  | [], A, M, R, o, _, hm => by
    obtain rfl : M = [] := List.eq_nil_of_length_eq_zero (by simpa using hm)
    rfl
  | v :: r, A, M, R, o, ha, hm => by
    match M, hm with
    | m :: M', hm =>
      subst ha
      have e1 : (A ++ m :: M' ++ R).set A.length v = (A ++ [v]) ++ M' ++ R := by simp
      rw [lset, e1, lset_mid r (A ++ [v]) M' R _ (by simp) (by simpa using hm)]
      simp
/-- Beyond the first o cells nothing of the first o turns. -/
theorem lset_take : ∀ (vs xs : List Value) (o k : Nat), k ≤ o → (lset xs o vs).take k = xs.take k
  | [], _, _, _, _ => rfl
  | v :: r, xs, o, k, h => by rw [lset, lset_take r _ _ _ (by omega), List.take_set_of_le h]
theorem own_prefix {w : World} {base g n m cap : Nat} {e : TypeId} {size : Nat} {xs : List Value} (h : w.ownsRow base e size (.slice (some ⟨g, 0, none⟩) n cap) n xs) (hm : m ≤ n) : w.ownsRow base e size (.slice (some ⟨g, 0, none⟩) m cap) m (xs.take (m * size)) := by
  obtain ⟨hl, h2⟩ := h
  have hms : m * size ≤ n * size := Nat.mul_le_mul_right _ hm
  rcases h2 with ⟨h0, _⟩ | ⟨g', cap', cur, hv, hg, hh, hn, hcap, hsz, htake⟩
  · cases h0
  · cases hv
    refine ⟨by simp; omega, .inr ⟨g, cap, cur, rfl, hg, hh, by omega, hcap, hsz, ?_⟩⟩
    rw [← htake, List.take_take, Nat.min_eq_left hms]

theorem entCells_append (l r : List Ent) : entCells (l ++ r) = entCells l ++ entCells r := by simp [entCells]

theorem ent_split (es : List Ent) (i : Nat) (h : i < es.length) : entCells es = entCells (es.take i) ++ es[i].cells ++ entCells (es.drop (i + 1)) := by
  conv => lhs; rw [← List.take_append_drop i es, List.drop_eq_getElem_cons h]
  rw [entCells_append, List.append_assoc]
  rfl
theorem entCells_one (es : List Ent) : ∀ u ∈ entCells es, u.oneCell' = true := by
  intro u hu
  simp [entCells, Ent.cells] at hu
  obtain ⟨e, _, h⟩ := hu
  rcases h with rfl | rfl | rfl | rfl | rfl | rfl <;> rfl

/-- What the row holds behind slices.Delete(s, i, i+1). -/
theorem delete_own {w : World} {base g n cap : Nat} {es : List Ent} (i : Nat) (hn : es.length = n) (hi : i < n) (how : w.ownsRow base 60 6 (.slice (some ⟨g, 0, none⟩) n cap) n (entCells es)) (vs : List Value) :
    ((w.setCells g (i * 6) (entCells (es.drop (i + 1)))).setCells g ((n - 1) * 6) vs).ownsRow base 60 6 (.slice (some ⟨g, 0, none⟩) (n - 1) cap) (n - 1) (entCells (es.take i ++ es.drop (i + 1))) := by
  have h1 := own_setCells vs ((n - 1) * 6) (own_setCells (entCells (es.drop (i + 1))) (i * 6) how)
  have h2 := own_prefix h1 (show n - 1 ≤ n by omega)
  rw [lset_take _ _ _ _ (Nat.le_refl _)] at h2
  have hl : (entCells (es.drop (i + 1))).length = (n - 1 - i) * 6 := by rw [entCells_length]; simp; omega
  have hl2 : (entCells (es.take i)).length = i * 6 := by rw [entCells_length]; simp; omega
  have e1 : entCells es = entCells (es.take i) ++ (es[i].cells ++ entCells (es.drop (i + 1))).take ((n - 1 - i) * 6) ++ (es[i].cells ++ entCells (es.drop (i + 1))).drop ((n - 1 - i) * 6) := by
    rw [List.append_assoc, List.take_append_drop, ← List.append_assoc]
    exact ent_split es i (by omega)
  rw [e1, lset_mid _ _ _ _ _ hl2 (by rw [List.length_take, List.length_append, hl]; omega)] at h2
  rw [List.take_append_of_le_length (by rw [List.length_append, hl, hl2]; omega), List.take_of_length_le (by rw [List.length_append, hl, hl2]; omega), ← entCells_append] at h2
  exact h2

set_option maxRecDepth 100000 in
set_option maxHeartbeats 1000000 in
theorem delete_any (g n cap i base : Nat) (y : Int) (es : List Ent) (w : World) (hy : y = (i : Int) + 1) (hn : es.length = n) (hi : i < n) (hn2 : n ≤ 2000) (how : w.ownsRow base 60 6 (.slice (some ⟨g, 0, none⟩) n cap) n (entCells es)) :
    Calls Ybad.prog 25 #[.slice (some ⟨g, 0, none⟩) n cap, .int .i64 i, .int .i64 y] w fun e w' => e = .returned (.slice (some ⟨g, 0, none⟩) (n - 1) cap) ∧ w'.ownsRow base 60 6 (.slice (some ⟨g, 0, none⟩) (n - 1) cap) (n - 1) (entCells (es.take i ++ es.drop (i + 1))) ∧ Kp [g] w w' := by
  subst hy
  obtain ⟨i0, hi0, hz0, hz1, hz2⟩ := info_parts Ybad.info60
  obtain ⟨_, _, cur, _, _, _, hcap, _, _, _⟩ : ∃ g' cap' cur, (Value.slice (some ⟨g, 0, none⟩) n cap) = .slice (some ⟨g', 0, none⟩) n cap' ∧ base ≤ g' ∧ w.heap[g']? = some (.cells cur 60 (0, 0)) ∧ n ≤ cap ∧ cap' ≤ maxLen ∧ cur.size = cap' * 6 ∧ cur.toList.take (n * 6) = entCells es := by
    rcases how.2 with ⟨h1, _⟩ | ⟨g', cap', cur, h1, h2, h3, h4, h5, h6, h7⟩
    · cases h1
    · cases h1
      exact ⟨g, cap, cur, rfl, h2, h3, h4, h5, h6, h7⟩
  have hcm : cap ≤ 9223372036854775807 := by
    rcases how.2 with ⟨h1, _⟩ | ⟨g', cap', cur, h1, h2, h3, h4, h5, h6, h7⟩
    · cases h1
    · cases h1
      exact h5
  have D := fun vs => delete_own (w := w.drew) i hn hi how vs
  obtain ⟨news, hnews⟩ : ∃ news, entCells (es.drop (i + 1)) = news := ⟨_, rfl⟩
  have hlen : news.length = (n - (i + 1)) * 6 := by rw [← hnews, entCells_length]; simp [hn]
  have s2 : Hid (∀ u ∈ news, u.oneCell' = true) := by rw [← hnews]; exact entCells_one _
  obtain ⟨A, hA, hsrc⟩ : ∃ A : Addr, (if cap = i + 1 then some (⟨g, 0, none⟩ : Addr) else some ⟨g, (i + 1) * 6, none⟩) = some A ∧ Hid (∀ t u, news[t]? = some u → w.drew.cell? (A.add t) = some u) := by
    by_cases h : cap = i + 1
    · refine ⟨⟨g, 0, none⟩, by simp [h], fun t u hu => ?_⟩
      have h0 : news.length = 0 := by rw [hlen]; omega
      rw [List.length_eq_zero_iff.1 h0] at hu
      simp at hu
    · refine ⟨⟨g, (i + 1) * 6, none⟩, by simp [h], fun t u hu => ?_⟩
      have ht : t < (n - (i + 1)) * 6 := by
        have := (List.getElem?_eq_some_iff.1 hu).1
        rwa [hlen] at this
      have e : (⟨g, (i + 1) * 6, none⟩ : Addr).add t = ⟨g, (i + 1) * 6 + t, none⟩ := by unfold Addr.add; split <;> simp_all
      rw [e]
      show w.cell? _ = _
      rw [how.cellAt _ (by omega), ent_split es i (by omega), hnews, List.getElem?_append_right (by rw [List.length_append, entCells_length]; simp [Ent.cells]; omega), ← hu]
      congr 1
      rw [List.length_append, entCells_length]
      simp [Ent.cells]
      omega
  have s1 : Hid (news.length = (n - (i + 1)) * 6) := hlen
  have s3 : Hid (∀ t, t < news.length → (w.drew.cell? ⟨g, 0 + i * 6 + t, none⟩).isSome = true ∧ w.drew.frozen? ⟨g, 0 + i * 6 + t, none⟩ = false) := by
    intro t ht
    rw [hlen] at ht
    refine ⟨?_, how.frozenAt _⟩
    show (w.cell? _).isSome = true
    have hx := how.1
    rw [how.cellAt _ (by omega), List.getElem?_eq_getElem (by omega)]
    rfl
  have hic : i ≤ cap := by omega
  have hjc : i + 1 ≤ cap := by omega
  have hb1 : (0 : Int) ≤ (i : Int) + 1 := by omega
  have hb2 : (i : Int) + 1 ≤ (n : Int) := by omega
  have hcl : (Builtin.clear_ #[33] 0 #[.slice (some ⟨g, (i + (n - (i + 1))) * 6, none⟩) (n - (i + (n - (i + 1)))) (cap - (i + (n - (i + 1))))]).run Ybad.prog (w.drew.setCells g (i * 6) news) = .ok (.tuple #[]) ((w.drew.setCells g (i * 6) news).setCells g ((n - 1) * 6) entZero) := by
    have e1 : i + (n - (i + 1)) = n - 1 := by omega
    have e2 : n - (n - 1) = 1 := by omega
    rw [e1, e2]
    have ho := own_setCells news (i * 6) (show w.drew.ownsRow base 60 6 (.slice (some ⟨g, 0, none⟩) n cap) n (entCells es) from how)
    have hx := ho.1
    refine clear_one _ 0 g ((n - 1) * 6) _ (fun j hj => ?_) (fun j hj => ho.frozenAt _)
    rw [ho.cellAt _ (by omega), List.getElem?_eq_getElem (by omega)]
    rfl
  have HK : Hid (Kp [g] w ((w.drew.setCells g (i * 6) news).setCells g ((n - 1) * 6) entZero)) := Kp.setCells (by simp) _ _ (Kp.setCells (by simp) _ _ (Kp.refl _ _).drew)
  rw [hnews] at D
  have HD := hide D
  clear D how hlen hnews
  go_enter Ybad.func25, Ybad.ntmps25
  go_wp2_with fail
  go_region_law (refine step_append_room rfl (.tmp 22) (.tmp 25) 33 rfl 60 i0 6 Ybad.underlying33 hi0 hz1 g 0 i cap (by simp [Act.eval, Act.put]) A (n - (i + 1)) (cap - (i + 1)) news (by simp [Act.eval, Act.put]) s1.out hsrc.out s2.out (by omega) s3.out ?_)
  go_wp2
  go_ret
  exact ⟨by rw [show n - 1 = i + (n - (i + 1)) by omega]; rfl, unhide HD _, HK.out⟩

end Go.Proofs.YbulkagdqDoor

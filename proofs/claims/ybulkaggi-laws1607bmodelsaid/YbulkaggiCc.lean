import Derived.Test.YbulkaggiCb
import Derived.Deep.RegionLaw
import Derived.Lib.SliceRun
namespace Go.Proofs.Ybulkaggi.CE
open Go.RowKit Go.WideMaps Go.Maps
set_option linter.unusedVariables false
set_option maxRecDepth 100000

/-! ### runningAbove -/
theorem above_any {N : Nat} {D : List Nat} {T : Nat} {w : World} {S : St} (h : Rel N D T w S) (f u : Int) (hlen : (S.ql 64).length ≤ 64) (hts : ∀ x ∈ S.ql 64, w.cell? ⟨S.tb x, 1, none⟩ = some (.int .u64 ((x : Int) + 1))) (hs : (S.ql 64).Pairwise (· < ·)) :
    Calls Yba.prog 96 #[Pp T, .int .u64 f, .int .u64 u] w fun e w' => ∃ b, e = .returned (.bool b) ∧ w' = w := by
  have C := hide (fun t => first_any h t hlen hts hs)
  obtain ⟨a, c, hv⟩ := sl_shape (h.q.own 64 (.inr rfl))
  have hrow := h.q.own 64 (.inr rfl)
  rw [hv] at hrow
  have c1 : w.cell? ⟨T, 4, none⟩ = some (.slice a (S.ql 64).length c) := by rw [← hv]; exact (cell_at h.t.at_ 4).trans rfl
  have HC : Hid (∀ k (h : k < (S.ql 64).length), ∃ g, a = some ⟨g, 0, none⟩ ∧ w.cell? ⟨g, k, none⟩ = some (Pp (S.tb (S.ql 64)[k])) ∧ w.cell? ⟨S.tb (S.ql 64)[k], 1, none⟩ = some (.int .u64 (((S.ql 64)[k] : Int) + 1))) := fun k h => by
    rcases hrow.2 with ⟨_, h0⟩ | ⟨g, cap, cur, e, _⟩
    · omega
    · have ea : a = some ⟨g, 0, none⟩ := by cases e; rfl
      subst ea
      refine ⟨g, rfl, ?_, hts _ (List.getElem_mem h)⟩
      rw [hrow.cellAt k (by omega)]
      simp [h]
  clear h hts hs hrow hv
  go_enter Yba.func96, Yba.ntmps96
  go_upto_region 2 with fail
  refine (C.out _).mono ?_
  rintro e w' ⟨i, rfl, hp, rfl⟩
  have hle := hp.le
  clear hp C
  obtain ⟨n, hn⟩ : ∃ n, (S.ql 64).length = n := ⟨_, rfl⟩
  by_cases hin : i < (S.ql 64).length
  · obtain ⟨g, rfl, c2, c3⟩ := HC.out i hin
    generalize (S.ql 64)[i] = z at c2 c3
    rw [hn] at hin hlen hle c1
    clear HC hn
    generalize S.tb z = B at *
    have hin' : (i : Int) < (n : Int) := by omega
    go_wp2
    go_ret
    exact ⟨_, rfl, rfl⟩
  · rw [hn] at hin hlen hle c1
    clear HC hn
    have hin' : ¬ (i : Int) < (n : Int) := by omega
    go_wp2
    go_ret
    exact ⟨_, rfl, rfl⟩

/-! ### Rows that are written in place -/
def lset (xs : List Value) : Nat → List Value → List Value
  | _, [] => xs
  | o, v :: r => lset (xs.set o v) (o + 1) r
theorem own_setCells {base g n cap : Nat} {e : TypeId} {size : Nat} : ∀ (vs : List Value) (o : Nat) {w : World} {xs : List Value}, w.ownsRow base e size (.slice (some ⟨g, 0, none⟩) n cap) n xs → (w.setCells g o vs).ownsRow base e size (.slice (some ⟨g, 0, none⟩) n cap) n (lset xs o vs)
  | [], _, _, _, h => h
  | v :: r, o, _, _, h => own_setCells r (o + 1) (h.stored o v).1
theorem lset_length : ∀ (vs : List Value) (xs : List Value) (o : Nat), (lset xs o vs).length = xs.length
  | [], _, _ => rfl
  | v :: r, xs, o => by rw [lset, lset_length r]; simp
theorem lset_mid : ∀ (vs A M R : List Value) (o : Nat), A.length = o → M.length = vs.length → lset (A ++ M ++ R) o vs = A ++ vs ++ R
  | [], A, M, R, o, _, hm => by
    obtain rfl : M = [] := List.eq_nil_of_length_eq_zero (by simpa using hm)
    rfl
  | v :: r, A, M, R, o, ha, hm => by
    match M, hm with
    | m :: M', hm =>
      subst ha
      have e1 : (A ++ m :: M' ++ R).set A.length v = (A ++ [v]) ++ M' ++ R := by simp
      rw [lset, e1, lset_mid r (A ++ [v]) M' R _ (by simp) (by simpa using hm)]
      simp
/-- Beyond the first o cells nothing of the first o turns. -/
theorem lset_take : ∀ (vs xs : List Value) (o k : Nat), k ≤ o → (lset xs o vs).take k = xs.take k
  | [], _, _, _, _ => rfl
  | v :: r, xs, o, k, h => by rw [lset, lset_take r _ _ _ (by omega), List.take_set_of_le h]
theorem own_prefix {w : World} {base g n m cap : Nat} {e : TypeId} {size : Nat} {xs : List Value} (h : w.ownsRow base e size (.slice (some ⟨g, 0, none⟩) n cap) n xs) (hm : m ≤ n) : w.ownsRow base e size (.slice (some ⟨g, 0, none⟩) m cap) m (xs.take (m * size)) := by
  obtain ⟨hl, h2⟩ := h
  have hms : m * size ≤ n * size := Nat.mul_le_mul_right _ hm
  rcases h2 with ⟨h0, _⟩ | ⟨g', cap', cur, hv, hg, hh, hn, hcap, hsz, htake⟩
  · cases h0
  · cases hv
    refine ⟨by simp; omega, .inr ⟨g, cap, cur, rfl, hg, hh, by omega, hcap, hsz, ?_⟩⟩
    rw [← htake, List.take_take, Nat.min_eq_left hms]
/-- All but block g is as it was; nothing is new. -/
structure At1 (g : Nat) (w w' : World) : Prop where
  os : w'.os = w.os
  tape : w'.tape = w.tape
  output : w'.output = w.output
  size : w'.heap.size = w.heap.size
  block : ∀ k, k ≠ g → w'.heap[k]? = w.heap[k]?
theorem At1.refl (g : Nat) (w : World) : At1 g w w := ⟨rfl, rfl, rfl, rfl, fun _ _ => rfl⟩
theorem At1.trans {g : Nat} {a b c : World} (h : At1 g a b) (k : At1 g b c) : At1 g a c := ⟨k.os.trans h.os, k.tape.trans h.tape, k.output.trans h.output, k.size.trans h.size, fun i hi => (k.block i hi).trans (h.block i hi)⟩
theorem At1.setCell {g i : Nat} {a w : World} (h : At1 g a w) (v : Value) : At1 g a (w.setCell ⟨g, i, none⟩ v) := h.trans ⟨rfl, rfl, rfl, by simp [World.setCell], fun k hk => Below.heap_setCell _ _ _ _ hk⟩
theorem At1.setCells {g : Nat} {a : World} : ∀ (vs : List Value) (o : Nat) {w : World}, At1 g a w → At1 g a (w.setCells g o vs)
  | [], _, _, h => h
  | _ :: r, o, _, h => At1.setCells r (o + 1) (h.setCell _)
theorem At1.drew {g : Nat} {a w : World} (h : At1 g a w) : At1 g a w.drew := ⟨h.os, h.tape, h.output, h.size, h.block⟩
theorem At1.grown {g : Nat} {a w : World} (h : At1 g a w) : a.grownBy w (some g) := ⟨h.os, h.tape, h.output, by rw [h.size]; exact Nat.le_refl _, fun k _ hk => h.block k (fun e => hk (by rw [e]))⟩

theorem delete_own {w : World} {base g n cap : Nat} {e : TypeId} {es : List Value} (i : Nat) (hn : es.length = n) (hi : i < n) (how : w.ownsRow base e 1 (.slice (some ⟨g, 0, none⟩) n cap) n es) (vs : List Value) :
    ((w.setCells g i (es.drop (i + 1))).setCells g (n - 1) vs).ownsRow base e 1 (.slice (some ⟨g, 0, none⟩) (n - 1) cap) (n - 1) (es.eraseIdx i) := by
  have h1 := own_setCells vs (n - 1) (own_setCells (es.drop (i + 1)) i how)
  have h2 := own_prefix h1 (show n - 1 ≤ n by omega)
  rw [lset_take _ _ _ _ (by omega)] at h2
  have hl : (es.drop (i + 1)).length = n - 1 - i := by simp; omega
  have hl2 : (es.take i).length = i := by simp; omega
  have e1 : es = es.take i ++ (es.drop i).take (n - 1 - i) ++ (es.drop i).drop (n - 1 - i) := by rw [List.append_assoc, List.take_append_drop, List.take_append_drop]
  rw [show lset es i (es.drop (i + 1)) = lset (es.take i ++ (es.drop i).take (n - 1 - i) ++ (es.drop i).drop (n - 1 - i)) i (es.drop (i + 1)) from by rw [← e1], lset_mid _ _ _ _ _ hl2 (by rw [List.length_take, hl]; simp; omega)] at h2
  rw [List.take_append_of_le_length (by rw [List.length_append, hl, hl2]; omega), List.take_of_length_le (by rw [List.length_append, hl, hl2]; omega)] at h2
  rw [List.eraseIdx_eq_take_drop_succ]
  exact h2

theorem info3 : (Yba.prog.info? 3).map (fun i => (i.zero, i.size, i.bytes)) = some (some (.int .i64 0), 1, 8) := by kernel_rfl
theorem clear68 (w : World) (ty : TypeId) (b o c : Nat) (hc : (w.cell? ⟨b, o, none⟩).isSome = true) (hf : w.frozen? ⟨b, o, none⟩ = false) :
    (Builtin.clear_ #[51] ty #[.slice (some ⟨b, o, none⟩) 1 c]).run Yba.prog w = .ok (.tuple #[]) (w.setCells b o [.pointer none]) := by
  have hv : ∀ w, (zeroValue 53).run Yba.prog w = .ok (.pointer none) w := fun w => by kernel_rfl
  have hzc : (Builtin.zeroCells (Value.cells (.pointer none)) 1).toList = [.pointer none] := by kernel_rfl
  have hst := run_storeCells_cells (P := Yba.prog) b o [.pointer none] 0 w (fun j hj => by obtain rfl : j = 0 := (by simpa using hj); simpa using hc) (fun j hj => by obtain rfl : j = 0 := (by simpa using hj); simpa using hf) (by intro v hv'; simp at hv'; subst hv'; rfl)
  simp only [Nat.add_zero] at hst
  simp [Builtin.clear_, run_underlying Yba.underlying51, hv, hzc, hst]

set_option maxHeartbeats 1000000 in
theorem delptr_any (g n cap i base : Nat) (y : Int) (es : List Value) (w : World) (hy : y = (i : Int) + 1) (hn : es.length = n) (hi : i < n) (hn2 : n ≤ 2000) (h1 : ∀ u ∈ es, u.oneCell' = true) (how : w.ownsRow base 53 1 (.slice (some ⟨g, 0, none⟩) n cap) n es) :
    Calls Yba.prog 68 #[.slice (some ⟨g, 0, none⟩) n cap, .int .i64 i, .int .i64 y] w fun e w' => e = .returned (.slice (some ⟨g, 0, none⟩) (n - 1) cap) ∧ w'.ownsRow base 53 1 (.slice (some ⟨g, 0, none⟩) (n - 1) cap) (n - 1) (es.eraseIdx i) ∧ At1 g w w' := by
  subst hy
  obtain ⟨i0, hi0, hz0, hz1, hz2⟩ := info_at info53
  obtain ⟨hcap, hcm⟩ : n ≤ cap ∧ cap ≤ 9223372036854775807 := by
    rcases how.2 with ⟨h1, _⟩ | ⟨g', cap', cur, h1, h2, h3, h4, h5, h6, h7⟩
    · cases h1
    · cases h1
      exact ⟨h4, h5⟩
  have D := fun vs => delete_own (w := w.drew) i hn hi how vs
  obtain ⟨news, hnews⟩ : ∃ news, es.drop (i + 1) = news := ⟨_, rfl⟩
  have hlen : news.length = (n - (i + 1)) * 1 := by rw [← hnews]; simp [hn]
  have s2 : Hid (∀ u ∈ news, u.oneCell' = true) := fun u hu => h1 u (by rw [← hnews] at hu; exact List.mem_of_mem_drop hu)
  obtain ⟨A, hA, hsrc⟩ : ∃ A : Addr, (if cap = i + 1 then some (⟨g, 0, none⟩ : Addr) else some ⟨g, i + 1, none⟩) = some A ∧ Hid (∀ t u, news[t]? = some u → w.drew.cell? (A.add t) = some u) := by
    by_cases h : cap = i + 1
    · refine ⟨⟨g, 0, none⟩, by simp [h], fun t u hu => ?_⟩
      have h0 : news.length = 0 := by rw [hlen]; omega
      rw [List.length_eq_zero_iff.1 h0] at hu
      simp at hu
    · refine ⟨⟨g, i + 1, none⟩, by simp [h], fun t u hu => ?_⟩
      have ht : t < n - (i + 1) := by
        have := (List.getElem?_eq_some_iff.1 hu).1
        rw [hlen] at this
        omega
      have e : (⟨g, i + 1, none⟩ : Addr).add t = ⟨g, i + 1 + t, none⟩ := by unfold Addr.add; split <;> simp_all
      rw [e]
      show w.cell? _ = _
      rw [how.cellAt _ (by omega), ← hu, ← hnews, List.getElem?_drop]
  have s1 : Hid (news.length = (n - (i + 1)) * 1) := hlen
  have s3 : Hid (∀ t, t < news.length → (w.drew.cell? ⟨g, 0 + i * 1 + t, none⟩).isSome = true ∧ w.drew.frozen? ⟨g, 0 + i * 1 + t, none⟩ = false) := by
    intro t ht
    rw [hlen] at ht
    refine ⟨?_, how.frozenAt _⟩
    show (w.cell? _).isSome = true
    have hx := how.1
    rw [how.cellAt _ (by omega), List.getElem?_eq_getElem (by omega)]
    rfl
  have hic : i ≤ cap := by omega
  have hjc : i + 1 ≤ cap := by omega
  have hb1 : (0 : Int) ≤ (i : Int) + 1 := by omega
  have hb2 : (i : Int) + 1 ≤ (n : Int) := by omega
  have hcl : (Builtin.clear_ #[51] 0 #[.slice (some ⟨g, i + (n - (i + 1)), none⟩) (n - (i + (n - (i + 1)))) (cap - (i + (n - (i + 1))))]).run Yba.prog (w.drew.setCells g i news) = .ok (.tuple #[]) ((w.drew.setCells g i news).setCells g (n - 1) [.pointer none]) := by
    have e1 : i + (n - (i + 1)) = n - 1 := by omega
    have e2 : n - (n - 1) = 1 := by omega
    rw [e1, e2]
    have ho := own_setCells news i (show w.drew.ownsRow base 53 1 (.slice (some ⟨g, 0, none⟩) n cap) n es from how)
    have hx := ho.1
    refine clear68 _ 0 g (n - 1) _ ?_ (ho.frozenAt _)
    rw [ho.cellAt _ (by omega), List.getElem?_eq_getElem (by omega)]
    rfl
  have HK : Hid (At1 g w ((w.drew.setCells g i news).setCells g (n - 1) [.pointer none])) := At1.setCells _ _ (At1.setCells _ _ (At1.refl _ _).drew)
  rw [hnews] at D
  have HD := hide D
  clear D how hlen hnews
  go_enter Yba.func68, Yba.ntmps68
  go_wp2_with fail
  go_region_law (refine step_append_room rfl (.tmp 22) (.tmp 25) 51 rfl 53 i0 1 Yba.underlying51 hi0 hz1 g 0 i cap (by simp [Act.eval, Act.put]) A (n - (i + 1)) (cap - (i + 1)) news (by simp [Act.eval, Act.put]) s1.out hsrc.out s2.out (by omega) s3.out ?_)
  go_wp2
  go_ret
  exact ⟨by rw [show n - 1 = i + (n - (i + 1)) by omega]; rfl, HD.out _, HK.out⟩

theorem clear22 (w : World) (ty : TypeId) (b o c : Nat) (hc : (w.cell? ⟨b, o, none⟩).isSome = true) (hf : w.frozen? ⟨b, o, none⟩ = false) :
    (Builtin.clear_ #[58] ty #[.slice (some ⟨b, o, none⟩) 1 c]).run Yba.prog w = .ok (.tuple #[]) (w.setCells b o [.int .i64 0]) := by
  have hv : ∀ w, (zeroValue 3).run Yba.prog w = .ok (.int .i64 0) w := fun w => by kernel_rfl
  have hzc : (Builtin.zeroCells (Value.cells (.int .i64 0)) 1).toList = [.int .i64 0] := by kernel_rfl
  have hst := run_storeCells_cells (P := Yba.prog) b o [.int .i64 0] 0 w (fun j hj => by obtain rfl : j = 0 := (by simpa using hj); simpa using hc) (fun j hj => by obtain rfl : j = 0 := (by simpa using hj); simpa using hf) (by intro v hv'; simp at hv'; subst hv'; rfl)
  simp only [Nat.add_zero] at hst
  simp [Builtin.clear_, run_underlying Yba.underlying58, hv, hzc, hst]

set_option maxHeartbeats 1000000 in
theorem delint_any (g n cap i base : Nat) (y : Int) (es : List Value) (w : World) (hy : y = (i : Int) + 1) (hn : es.length = n) (hi : i < n) (hn2 : n ≤ 2000) (h1 : ∀ u ∈ es, u.oneCell' = true) (how : w.ownsRow base 3 1 (.slice (some ⟨g, 0, none⟩) n cap) n es) :
    Calls Yba.prog 22 #[.slice (some ⟨g, 0, none⟩) n cap, .int .i64 i, .int .i64 y] w fun e w' => e = .returned (.slice (some ⟨g, 0, none⟩) (n - 1) cap) ∧ w'.ownsRow base 3 1 (.slice (some ⟨g, 0, none⟩) (n - 1) cap) (n - 1) (es.eraseIdx i) ∧ At1 g w w' := by
  subst hy
  obtain ⟨i0, hi0, hz0, hz1, hz2⟩ := info_at info3
  obtain ⟨hcap, hcm⟩ : n ≤ cap ∧ cap ≤ 9223372036854775807 := by
    rcases how.2 with ⟨h1, _⟩ | ⟨g', cap', cur, h1, h2, h3, h4, h5, h6, h7⟩
    · cases h1
    · cases h1
      exact ⟨h4, h5⟩
  have D := fun vs => delete_own (w := w.drew) i hn hi how vs
  obtain ⟨news, hnews⟩ : ∃ news, es.drop (i + 1) = news := ⟨_, rfl⟩
  have hlen : news.length = (n - (i + 1)) * 1 := by rw [← hnews]; simp [hn]
  have s2 : Hid (∀ u ∈ news, u.oneCell' = true) := fun u hu => h1 u (by rw [← hnews] at hu; exact List.mem_of_mem_drop hu)
  obtain ⟨A, hA, hsrc⟩ : ∃ A : Addr, (if cap = i + 1 then some (⟨g, 0, none⟩ : Addr) else some ⟨g, i + 1, none⟩) = some A ∧ Hid (∀ t u, news[t]? = some u → w.drew.cell? (A.add t) = some u) := by
    by_cases h : cap = i + 1
    · refine ⟨⟨g, 0, none⟩, by simp [h], fun t u hu => ?_⟩
      have h0 : news.length = 0 := by rw [hlen]; omega
      rw [List.length_eq_zero_iff.1 h0] at hu
      simp at hu
    · refine ⟨⟨g, i + 1, none⟩, by simp [h], fun t u hu => ?_⟩
      have ht : t < n - (i + 1) := by
        have := (List.getElem?_eq_some_iff.1 hu).1
        rw [hlen] at this
        omega
      have e : (⟨g, i + 1, none⟩ : Addr).add t = ⟨g, i + 1 + t, none⟩ := by unfold Addr.add; split <;> simp_all
      rw [e]
      show w.cell? _ = _
      rw [how.cellAt _ (by omega), ← hu, ← hnews, List.getElem?_drop]
  have s1 : Hid (news.length = (n - (i + 1)) * 1) := hlen
  have s3 : Hid (∀ t, t < news.length → (w.drew.cell? ⟨g, 0 + i * 1 + t, none⟩).isSome = true ∧ w.drew.frozen? ⟨g, 0 + i * 1 + t, none⟩ = false) := by
    intro t ht
    rw [hlen] at ht
    refine ⟨?_, how.frozenAt _⟩
    show (w.cell? _).isSome = true
    have hx := how.1
    rw [how.cellAt _ (by omega), List.getElem?_eq_getElem (by omega)]
    rfl
  have hic : i ≤ cap := by omega
  have hjc : i + 1 ≤ cap := by omega
  have hb1 : (0 : Int) ≤ (i : Int) + 1 := by omega
  have hb2 : (i : Int) + 1 ≤ (n : Int) := by omega
  have hcl : (Builtin.clear_ #[58] 0 #[.slice (some ⟨g, i + (n - (i + 1)), none⟩) (n - (i + (n - (i + 1)))) (cap - (i + (n - (i + 1))))]).run Yba.prog (w.drew.setCells g i news) = .ok (.tuple #[]) ((w.drew.setCells g i news).setCells g (n - 1) [.int .i64 0]) := by
    have e1 : i + (n - (i + 1)) = n - 1 := by omega
    have e2 : n - (n - 1) = 1 := by omega
    rw [e1, e2]
    have ho := own_setCells news i (show w.drew.ownsRow base 3 1 (.slice (some ⟨g, 0, none⟩) n cap) n es from how)
    have hx := ho.1
    refine clear22 _ 0 g (n - 1) _ ?_ (ho.frozenAt _)
    rw [ho.cellAt _ (by omega), List.getElem?_eq_getElem (by omega)]
    rfl
  have HK : Hid (At1 g w ((w.drew.setCells g i news).setCells g (n - 1) [.int .i64 0])) := At1.setCells _ _ (At1.setCells _ _ (At1.refl _ _).drew)
  rw [hnews] at D
  have HD := hide D
  clear D how hlen hnews
  go_enter Yba.func22, Yba.ntmps22
  go_wp2_with fail
  go_region_law (refine step_append_room rfl (.tmp 22) (.tmp 25) 58 rfl 3 i0 1 Yba.underlying58 hi0 hz1 g 0 i cap (by simp [Act.eval, Act.put]) A (n - (i + 1)) (cap - (i + 1)) news (by simp [Act.eval, Act.put]) s1.out hsrc.out s2.out (by omega) s3.out ?_)
  go_wp2
  go_ret
  exact ⟨by rw [show n - 1 = i + (n - (i + 1)) by omega]; rfl, HD.out _, HK.out⟩

end Go.Proofs.Ybulkaggi.CE

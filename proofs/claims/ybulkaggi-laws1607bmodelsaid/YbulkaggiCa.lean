import Derived.Test.YbulkaggiC9b
import Derived.Test.YbulkaggiC9d
import Derived.Test.YbulkaggiC9e
import Derived.Test.YbulkaggiC9f
namespace Go.Proofs.Ybulkaggi.CE
open Go.RowKit Go.WideMaps Go.Maps
set_option linter.unusedVariables false
set_option maxRecDepth 100000

theorem service_any {N : Nat} {D : List Nat} {T : Nat} {w : World} {S : St} (h : Rel N D T w S) {x i : Nat} {b : Bool} (hx : x ∈ S.hs) (hi : i ∈ S.its) (hwr : ∀ y, S.wr i = some y → y ∈ S.hs) (h64 : 64 ∉ S.hs) (cw : (S.wl x).length ≤ 100000) (cg : S.gl.length ≤ 100000) (cq : ∀ y ∈ S.hs, (S.ql y).length ≤ 100000) :
    Calls Yba.prog 41 #[Pp T, Pp (S.tb x), .agg #[Pp i, .bool b]] w (ServPost N D T w S x i b) := by
  by_cases d2 : (x : Int) + 1 < S.wn i
  · cases b with
    | false => exact servC1 h hx hi (by simpa using d2)
    | true =>
      by_cases d1 : (x : Int) + 1 < S.rd i
      · exact servA h hx hi (by simpa using d1)
      · cases hth : S.th with
        | false => exact servC2 h hx hi (by simpa using d1) (by simpa using d2) hth
        | true =>
          cases hw : S.wr i with
          | none => exact servB h hx hi (by simpa using d1) (by simpa using d2) hth hw cg
          | some y => exact servC3 h hx hi (by simpa using d1) (by simpa using d2) hth hw
  · by_cases d1 : b = true ∧ (x : Int) + 1 < S.rd i
    · obtain ⟨rfl, d1⟩ := d1
      exact servA h hx hi (by simpa using d1)
    · cases hw : S.wr i with
      | none =>
        cases b with
        | false => exact servE0 h hx hi (by simpa using d2) hw
        | true => exact servF0 h hx hi (by simpa using d1) (by simpa using d2) hw hwr cw
      | some y =>
        have hy := hwr y hw
        by_cases e : y = x
        · subst e
          cases b with
          | false => exact servE1 h hx hi (by simpa using d2) hw
          | true => exact servF1 h hx hi (by simpa using d1) (by simpa using d2) hw hwr cw
        · have y64 : y ≠ 64 := fun e' => h64 (e' ▸ hy)
          cases b with
          | false => exact servD1 h hx hi (by simpa using d2) hw e hy y64 (cq y hy)
          | true => exact servD2 h hx hi (by simpa using d1) (by simpa using d2) hw e hy y64 (cq y hy)

/-! ### What the table keeps to -/
structure Inv (c : Nat) (S : St) : Prop where
  lt : ∀ x ∈ S.hs, x < 64
  q1 : ∀ h ∈ S.hs, ∀ z ∈ S.ql h, z ∈ S.hs ∧ S.wt z ≠ none
  q2 : ∀ h ∈ S.hs, (S.ql h).Nodup
  q3 : ∀ h ∈ S.hs, ∀ h' ∈ S.hs, ∀ z, z ∈ S.ql h → z ∈ S.ql h' → h = h'
  w1 : ∀ i ∈ S.its, ∀ h, S.wr i = some h → h ∈ S.hs ∧ S.wn i = (h : Int) + 1 ∧ ∃ u, (i, u) ∈ S.wl h
  w2 : ∀ h ∈ S.hs, ∀ p ∈ S.wl h, p.1 ∈ S.its ∧ S.wr p.1 = some h
  w3 : ∀ h ∈ S.hs, ((S.wl h).map (·.1)).Nodup
  r1 : ∀ h ∈ S.hs, ∀ r i b, S.wt h = some (r, i, b) → i ∈ S.its
  cw : ∀ h ∈ S.hs, (S.wl h).length ≤ c
  cg : S.gl.length ≤ c

theorem len_le : ∀ (n : Nat) (l : List Nat), l.Nodup → (∀ x ∈ l, x < n) → l.length ≤ n
  | 0, l, _, h => by
    cases l with
    | nil => simp
    | cons a r => exact absurd (h a (by simp)) (by omega)
  | n + 1, l, hn, h => by
    have h1 := len_le n (l.erase n) (hn.erase n) (fun x hx => by
      obtain ⟨a, b⟩ := hn.mem_erase_iff.1 hx
      have := h x b
      omega)
    by_cases e : n ∈ l
    · rw [List.length_erase_of_mem e] at h1
      omega
    · rw [List.erase_of_not_mem e] at h1
      omega
theorem Inv.qlen {c : Nat} {S : St} (I : Inv c S) {h : Nat} (hh : h ∈ S.hs) : (S.ql h).length ≤ 64 := len_le 64 _ (I.q2 h hh) (fun z hz => I.lt z (I.q1 h hh z hz).1)
theorem Inv.mono {c c' : Nat} {S : St} (I : Inv c S) (h : c ≤ c') : Inv c' S := ⟨I.lt, I.q1, I.q2, I.q3, I.w1, I.w2, I.w3, I.r1, fun x hx => Nat.le_trans (I.cw x hx) h, Nat.le_trans I.cg h⟩
theorem Inv.free {c : Nat} {S : St} (I : Inv c S) {x : Nat} (hw : S.wt x = none) : ∀ h ∈ S.hs, x ∉ S.ql h := fun h hh hx => (I.q1 h hh x hx).2 hw
theorem Inv.no64 {c : Nat} {S : St} (I : Inv c S) : 64 ∉ S.hs := fun h => by have := I.lt 64 h; omega

theorem Grew.inv {c : Nat} {S S' : St} (g : Grew S S') (I : Inv c S) : Inv c S' := by
  obtain ⟨e, sub, new⟩ := g
  have e1 : S'.hs = S.hs := by rw [e]
  have e2 : S'.ql = S.ql := by rw [e]
  have e3 : S'.wt = S.wt := by rw [e]
  have e4 : S'.wl = S.wl := by rw [e]
  have e5 : S'.gl = S.gl := by rw [e]
  refine ⟨by rw [e1]; exact I.lt, by rw [e1, e2, e3]; exact I.q1, by rw [e1, e2]; exact I.q2, by rw [e1, e2]; exact I.q3, fun i hi h hh => ?_, fun h hh p hp => ?_, by rw [e1, e4]; exact I.w3, fun h hh r i b hr => ?_, by rw [e1, e4]; exact I.cw, by rw [e5]; exact I.cg⟩
  · by_cases hin : i ∈ S.its
    · obtain ⟨_, _, a2, a3⟩ := sub i hin
      rw [a3] at hh
      rw [e1, e4, a2]
      exact I.w1 i hin h hh
    · rw [new i hi hin] at hh
      cases hh
  · rw [e1] at hh
    rw [e4] at hp
    obtain ⟨a1, a2⟩ := I.w2 h hh p hp
    obtain ⟨b1, _, _, b3⟩ := sub p.1 a1
    exact ⟨b1, by rw [b3]; exact a2⟩
  · rw [e1] at hh
    rw [e3] at hr
    exact (sub i (I.r1 h hh r i b hr)).1

theorem WStep.inv {c : Nat} {S S' : St} {x i : Nat} (g : WStep S S' x i) (I : Inv c S) (hx : x ∈ S.hs) (hi : i ∈ S.its) (hw : S.wr i = none ∨ S.wr i = some x) : Inv (c + 1) S' := by
  rcases g with ⟨hr, e⟩ | ⟨hr, v, e⟩
  · subst e
    refine ⟨I.lt, I.q1, I.q2, I.q3, fun j hj h hh => ?_, I.w2, I.w3, I.r1, fun h hh => Nat.le_succ_of_le (I.cw h hh), Nat.le_succ_of_le I.cg⟩
    obtain ⟨a1, a2, a3⟩ := I.w1 j hj h hh
    refine ⟨a1, ?_, a3⟩
    show upd S.wn i ((x : Int) + 1) j = _
    by_cases ej : j = i
    · subst ej
      rw [upd_same]
      have hh' : S.wr j = some h := hh
      rw [hr] at hh'
      cases hh'
      rfl
    · rw [upd_other _ _ ej]
      exact a2
  · subst e
    have hn : S.wr i = none := hw.resolve_right hr
    have ni : ∀ h ∈ S.hs, ∀ p ∈ S.wl h, p.1 ≠ i := fun h hh p hp e => by
      have := (I.w2 h hh p hp).2
      rw [e, hn] at this
      cases this
    refine ⟨I.lt, I.q1, I.q2, I.q3, fun j hj h hh => ?_, fun h hh p hp => ?_, fun h hh => ?_, I.r1, fun h hh => ?_, Nat.le_succ_of_le I.cg⟩
    · have hh' : upd S.wr i (some x) j = some h := hh
      show h ∈ S.hs ∧ upd S.wn i ((x : Int) + 1) j = (h : Int) + 1 ∧ ∃ u, (j, u) ∈ upd S.wl x (S.wl x ++ [(i, S.wn i)]) h
      by_cases ej : j = i
      · subst ej
        rw [upd_same] at hh'
        cases hh'
        rw [upd_same, upd_same]
        exact ⟨hx, rfl, S.wn j, by simp⟩
      · rw [upd_other _ _ ej] at hh'
        obtain ⟨a1, a2, u, a3⟩ := I.w1 j hj h hh'
        rw [upd_other _ _ ej]
        refine ⟨a1, a2, u, ?_⟩
        by_cases eh : h = x
        · subst eh
          rw [upd_same]
          simp [a3]
        · rw [upd_other _ _ eh]
          exact a3
    · have hp' : p ∈ upd S.wl x (S.wl x ++ [(i, S.wn i)]) h := hp
      show p.1 ∈ S.its ∧ upd S.wr i (some x) p.1 = some h
      by_cases eh : h = x
      · subst eh
        rw [upd_same] at hp'
        rcases List.mem_append.1 hp' with hp' | hp'
        · rw [upd_other _ _ (ni h hh p hp')]
          exact I.w2 h hh p hp'
        · simp at hp'
          subst hp'
          exact ⟨hi, upd_same _ _ _⟩
      · rw [upd_other _ _ eh] at hp'
        rw [upd_other _ _ (ni h hh p hp')]
        exact I.w2 h hh p hp'
    · show ((upd S.wl x (S.wl x ++ [(i, S.wn i)]) h).map (·.1)).Nodup
      by_cases eh : h = x
      · subst eh
        rw [upd_same, List.map_append, List.nodup_append]
        refine ⟨I.w3 h hh, by simp, fun a ha b hb => ?_⟩
        simp at hb
        subst hb
        obtain ⟨p, hp, rfl⟩ := List.mem_map.1 ha
        exact ni h hh p hp
      · rw [upd_other _ _ eh]
        exact I.w3 h hh
    · show (upd S.wl x (S.wl x ++ [(i, S.wn i)]) h).length ≤ c + 1
      by_cases eh : h = x
      · subst eh
        rw [upd_same]
        have := I.cw h hh
        simp
        omega
      · rw [upd_other _ _ eh]
        exact Nat.le_succ_of_le (I.cw h hh)

/-- What a service leaves as it was. -/
structure Served (S S' : St) (x : Nat) : Prop where
  th : S'.th = S.th
  hs : S'.hs = S.hs
  ks : S'.ks = S.ks
  tb : S'.tb = S.tb
  al : S'.al = S.al
  M : S'.M = S.M
  last : S'.last = S.last
  im : S'.im = S.im
  tm : S'.tm = S.tm
  its : S'.its = S.its
  q64 : S'.Q 64 = S.Q 64
  l64 : S'.ql 64 = S.ql 64
  wt : ∀ z, z ≠ x → S'.wt z = S.wt z
  ql : ∀ h ∈ S.hs, ∀ z, z ≠ x → z ∈ S'.ql h → z ∈ S.ql h
  mono : ∀ i ∈ S.its, S'.wr i = none → S.wr i = none ∧ S'.wn i = S.wn i

theorem SStep.ok {S S' : St} {x i st : Nat} {b : Bool} (g : SStep S S' x i b st) : 1 ≤ st ∧ st ≤ 4 := by rcases g with ⟨rfl, e⟩ | ⟨rfl, v, p, e⟩ | ⟨rfl, n, e⟩ | ⟨rfl, hw, e⟩ | ⟨rfl, y, r, v, hy, hne, e⟩ <;> omega
theorem SStep.inv {c : Nat} {S S' : St} {x i st : Nat} {b : Bool} (g : SStep S S' x i b st) (I : Inv c S) (hx : x ∈ S.hs) (hi : i ∈ S.its) (hwt : S.wt x = none) : Inv (c + 1) S' := by
  rcases g with ⟨rfl, e⟩ | ⟨rfl, v, p, e⟩ | ⟨rfl, n, e⟩ | ⟨rfl, hw, e⟩ | ⟨rfl, y, r, v, hy, hne, e⟩
  · subst e; exact I.mono (Nat.le_succ _)
  · subst e
    exact ⟨I.lt, I.q1, I.q2, I.q3, I.w1, I.w2, I.w3, I.r1, fun h hh => Nat.le_succ_of_le (I.cw h hh), by have := I.cg; simp; omega⟩
  · subst e
    exact ⟨I.lt, I.q1, I.q2, I.q3, I.w1, I.w2, I.w3, I.r1, fun h hh => Nat.le_succ_of_le (I.cw h hh), Nat.le_succ_of_le I.cg⟩
  · exact e.inv I hx hi hw
  · subst e
    have hyh := (I.w1 i hi y hy).1
    have fr := I.free hwt
    have mem : ∀ h z, z ∈ upd S.ql y (S.ql y ++ [x]) h → z ∈ S.ql h ∨ (z = x ∧ h = y) := fun h z hz => by
      by_cases eh : h = y
      · subst eh
        rw [upd_same] at hz
        rcases List.mem_append.1 hz with hz | hz
        · exact .inl hz
        · exact .inr ⟨by simpa using hz, rfl⟩
      · rw [upd_other _ _ eh] at hz
        exact .inl hz
    refine ⟨I.lt, fun h hh z hz => ?_, fun h hh => ?_, fun h hh h' hh' z hz hz' => ?_, I.w1, I.w2, I.w3, fun h hh r' i' b' hr => ?_, fun h hh => Nat.le_succ_of_le (I.cw h hh), Nat.le_succ_of_le I.cg⟩
    · show z ∈ S.hs ∧ upd S.wt x (some (r, i, b)) z ≠ none
      rcases mem h z hz with hz | ⟨rfl, _⟩
      · by_cases ez : z = x
        · subst ez
          exact ⟨hx, by rw [upd_same]; simp⟩
        · rw [upd_other _ _ ez]
          exact I.q1 h hh z hz
      · exact ⟨hx, by rw [upd_same]; simp⟩
    · show (upd S.ql y (S.ql y ++ [x]) h).Nodup
      by_cases eh : h = y
      · subst eh
        rw [upd_same, List.nodup_append]
        refine ⟨I.q2 h hh, by simp, fun a ha b hb => ?_⟩
        simp at hb
        subst hb
        intro e
        subst e
        exact fr h hh ha
      · rw [upd_other _ _ eh]
        exact I.q2 h hh
    · rcases mem h z hz with hz1 | ⟨f1, f2⟩ <;> rcases mem h' z hz' with hz2 | ⟨e1, e2⟩
      · exact I.q3 h hh h' hh' z hz1 hz2
      · rw [e1] at hz1
        exact (fr h hh hz1).elim
      · rw [f1] at hz2
        exact (fr h' hh' hz2).elim
      · exact f2.trans e2.symm
    · have hr' : upd S.wt x (some (r, i, b)) h = some (r', i', b') := hr
      by_cases eh : h = x
      · subst eh
        rw [upd_same] at hr'
        cases hr'
        exact hi
      · rw [upd_other _ _ eh] at hr'
        exact I.r1 h hh r' i' b' hr'
theorem SStep.served {c : Nat} {S S' : St} {x i st : Nat} {b : Bool} (g : SStep S S' x i b st) (I : Inv c S) (hx : x ∈ S.hs) (hi : i ∈ S.its) : Served S S' x := by
  have base : ∀ j ∈ S.its, S.wr j = none → S.wr j = none ∧ S.wn j = S.wn j := fun j _ h => ⟨h, rfl⟩
  rcases g with ⟨rfl, e⟩ | ⟨rfl, v, p, e⟩ | ⟨rfl, n, e⟩ | ⟨rfl, hw, e⟩ | ⟨rfl, y, r, v, hy, hne, e⟩
  · subst e; exact ⟨rfl, rfl, rfl, rfl, rfl, rfl, rfl, rfl, rfl, rfl, rfl, rfl, fun _ _ => rfl, fun _ _ _ _ h => h, base⟩
  · subst e; exact ⟨rfl, rfl, rfl, rfl, rfl, rfl, rfl, rfl, rfl, rfl, rfl, rfl, fun _ _ => rfl, fun _ _ _ _ h => h, base⟩
  · subst e; exact ⟨rfl, rfl, rfl, rfl, rfl, rfl, rfl, rfl, rfl, rfl, rfl, rfl, fun _ _ => rfl, fun _ _ _ _ h => h, base⟩
  · rcases e with ⟨hr, e⟩ | ⟨hr, v, e⟩
    · subst e
      refine ⟨rfl, rfl, rfl, rfl, rfl, rfl, rfl, rfl, rfl, rfl, rfl, rfl, fun _ _ => rfl, fun _ _ _ _ h => h, fun j hj h => ?_⟩
      have h' : S.wr j = none := h
      refine ⟨h', upd_other _ _ (fun e => ?_)⟩
      rw [e, hr] at h'
      cases h'
    · subst e
      refine ⟨rfl, rfl, rfl, rfl, rfl, rfl, rfl, rfl, rfl, rfl, rfl, rfl, fun _ _ => rfl, fun _ _ _ _ h => h, fun j hj h => ?_⟩
      have h' : upd S.wr i (some x) j = none := h
      by_cases ej : j = i
      · rw [ej, upd_same] at h'
        cases h'
      · rw [upd_other _ _ ej] at h'
        exact ⟨h', upd_other _ _ ej⟩
  · subst e
    have hyh := (I.w1 i hi y hy).1
    have y64 : (64 : Nat) ≠ y := fun e => I.no64 (e ▸ hyh)
    refine ⟨rfl, rfl, rfl, rfl, rfl, rfl, rfl, rfl, rfl, rfl, upd_other _ _ y64, upd_other _ _ y64, fun z hz => upd_other _ _ hz, fun h hh z hz hm => ?_, base⟩
    have hm' : z ∈ upd S.ql y (S.ql y ++ [x]) h := hm
    by_cases eh : h = y
    · subst eh
      rw [upd_same] at hm'
      simpa [hz] using hm'
    · rw [upd_other _ _ eh] at hm'
      exact hm'
theorem SStep.wait {S S' : St} {x i st : Nat} {b : Bool} (g : SStep S S' x i b st) (hwt : S.wt x = none) : (st = 3 ↔ S'.wt x ≠ none) := by
  rcases g with ⟨rfl, e⟩ | ⟨rfl, v, p, e⟩ | ⟨rfl, n, e⟩ | ⟨rfl, hw, e⟩ | ⟨rfl, y, r, v, hy, hne, e⟩
  · subst e; simp [hwt]
  · subst e; simp [hwt]
  · subst e; simp [hwt]
  · rcases e with ⟨hr, e⟩ | ⟨hr, v, e⟩
    · subst e; simp [hwt]
    · subst e; simp [hwt]
  · subst e; simp [upd_same]

end Go.Proofs.Ybulkaggi.CE

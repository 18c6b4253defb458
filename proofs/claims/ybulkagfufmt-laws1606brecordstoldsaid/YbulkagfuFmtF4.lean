import Derived.Test.YbulkagfuFmtF3
import Derived.Maps.AppendAt
import Derived.OwnWalk
namespace Go.Proofs.YbulkagfuFmt
open Go.RowKit Go.WideMaps Go.Maps Go.Extern.Stop Go.Stop Go.Extern
set_option linter.unusedVariables false

theorem own_tag {w : World} {base : Nat} {e : TypeId} {size : Nat} {v : Value} {n : Nat} {xs : List Value} (h : w.ownsRow base e size v n xs) {k : Nat} (hk : v.ownBlock = some k) : ∃ cs, w.heap[k]? = some (.cells cs e (0, 0)) := by
  rcases h.2 with ⟨rfl, _⟩ | ⟨g, cap, cur, rfl, _, hg, _⟩
  · simp [Value.ownBlock] at hk
  · simp [Value.ownBlock] at hk
    subst hk
    exact ⟨cur, hg⟩
theorem own_keep {w w' : World} {base : Nat} {e : TypeId} {size : Nat} {v : Value} {n : Nat} {xs : List Value} (h : w.ownsRow base e size v n xs) (hb : ∀ k, v.ownBlock = some k → w'.heap[k]? = w.heap[k]?) : w'.ownsRow base e size v n xs := by
  refine ⟨h.1, ?_⟩
  rcases h.2 with h0 | ⟨g, cap, cur, e', h1, hg, rest⟩
  · exact .inl h0
  · exact .inr ⟨g, cap, cur, e', h1, (hb g (by rw [e']; rfl)).trans hg, rest⟩
theorem tag_ne {w : World} {a b : Nat} {cs cs' : Array Value} {t t' : TypeId} (ha : w.heap[a]? = some (.cells cs t (0, 0))) (hb : w.heap[b]? = some (.cells cs' t' (0, 0))) (h : t ≠ t') : a ≠ b := by
  intro e
  subst e
  rw [ha] at hb
  simp at hb
  exact h hb.2

/-- One record: its own cells, the row of its marks, the row of its slices, and each slice's row. -/
structure RecAt (w : World) (base R M K n : Nat) (mk : Nat → Bool) (wt : Int) (T : Nat → List Int) (B : Nat → Option Nat) : Prop where
  self : w.heap[R]? = some (.cells #[.int .i64 0, .slice (some ⟨M, 0, none⟩) n n, .slice (some ⟨K, 0, none⟩) n n, .int .i64 wt] 44 (0, 0))
  mrk : ∃ cs, w.heap[K]? = some (.cells cs 4 (0, 0)) ∧ ∀ j, j < n → cs[j]? = some (.bool (mk j))
  msg : ∃ cs, w.heap[M]? = some (.cells cs 46 (0, 0)) ∧ ∀ j, j < n → ∃ v, cs[j]? = some v ∧ w.ownsRow base 3 1 v (T j).length ((T j).map (Value.int .i64)) ∧ v.ownBlock = B j

theorem RecAt.tag {w : World} {base R M K n : Nat} {mk : Nat → Bool} {wt : Int} {T : Nat → List Int} {B : Nat → Option Nat} (h : RecAt w base R M K n mk wt T B) {j k : Nat} (hj : j < n) (hk : B j = some k) : ∃ cs, w.heap[k]? = some (.cells cs 3 (0, 0)) := by
  obtain ⟨cs, _, h2⟩ := h.msg
  obtain ⟨v, _, h4, h5⟩ := h2 j hj
  exact own_tag h4 (h5.trans hk)

theorem RecAt.keep {w w' : World} {base R M K n : Nat} {mk : Nat → Bool} {wt : Int} {T : Nat → List Int} {B : Nat → Option Nat} (h : RecAt w base R M K n mk wt T B)
    (hR : w'.heap[R]? = w.heap[R]?) (hK : w'.heap[K]? = w.heap[K]?) (hM : w'.heap[M]? = w.heap[M]?) (hB : ∀ j, j < n → ∀ k, B j = some k → w'.heap[k]? = w.heap[k]?) : RecAt w' base R M K n mk wt T B := by
  obtain ⟨ks, h1, h2⟩ := h.mrk
  obtain ⟨cs, h3, h4⟩ := h.msg
  refine ⟨hR.trans h.self, ⟨ks, hK.trans h1, h2⟩, ⟨cs, hM.trans h3, fun j hj => ?_⟩⟩
  obtain ⟨v, h5, h6, h7⟩ := h4 j hj
  exact ⟨v, h5, own_keep h6 (fun k hk => hB j hj k (h7.symm.trans hk)), h7⟩

def upd {α : Type} (f : Nat → α) (c : Nat) (x : α) : Nat → α := fun j => if j = c then x else f j

/-- One message more in one channel of one record. -/
theorem RecAt.push {w w1 : World} {base R M K n c : Nat} {mk : Nat → Bool} {wt m : Int} {T : Nat → List Int} {B : Nat → Option Nat} {v v' : Value} {o : Obj} (h : RecAt w base R M K n mk wt T B) (hc : c < n) (hinj : ∀ i j k, i < n → j < n → B i = some k → B j = some k → i = j)
    (hv : v.ownBlock = B c) (hg : (w.alloc o).grownBy w1 v.ownBlock) (ho : w1.ownsRow base 3 1 v' ((T c).length + 1) ((T c).map (Value.int .i64) ++ [.int .i64 m])) (hl : v'.ownBlock = v.ownBlock ∨ v'.ownBlock = some (w.alloc o).heap.size) :
    RecAt (w1.setCell ⟨M, c, none⟩ v') base R M K n mk wt (upd T c (T c ++ [m])) (upd B c v'.ownBlock) ∧ ∀ k, k < w.heap.size → k ≠ M → some k ≠ B c → (w1.setCell ⟨M, c, none⟩ v').heap[k]? = w.heap[k]? := by
  obtain ⟨ks, h1, h2⟩ := h.mrk
  obtain ⟨cs, h3, h4⟩ := h.msg
  have hlt : ∀ {k : Nat} {x : Obj}, w.heap[k]? = some x → k < w.heap.size := fun h => (Array.getElem?_eq_some_iff.1 h).1
  have old : ∀ k, k < w.heap.size → some k ≠ B c → w1.heap[k]? = w.heap[k]? := fun k hk hne => by
    rw [hg.block k (by simp; omega) (by rw [hv]; exact hne)]
    exact Below.heap_alloc _ _ _ hk
  have fr : ∀ k, k < w.heap.size → k ≠ M → some k ≠ B c → (w1.setCell ⟨M, c, none⟩ v').heap[k]? = w.heap[k]? := fun k hk hM hne => (Below.heap_setCell w1 ⟨M, c, none⟩ v' k hM).trans (old k hk hne)
  have nb : ∀ {k : Nat} {xs : Array Value} {t : TypeId}, w.heap[k]? = some (.cells xs t (0, 0)) → t ≠ 3 → some k ≠ B c := fun hk ht e => by
    obtain ⟨ys, hy⟩ := h.tag hc e.symm
    exact tag_ne hk hy ht rfl
  have hM1 : w1.heap[M]? = some (.cells cs 46 (0, 0)) := (old M (hlt h3) (nb h3 (by decide))).trans h3
  have hM2 : (w1.setCell ⟨M, c, none⟩ v').heap[M]? = some (.cells (cs.setIfInBounds c v') 46 (0, 0)) := heap_setCell_same w1 M c cs 46 v' hM1
  refine ⟨⟨?_, ⟨ks, ?_, h2⟩, ⟨cs.setIfInBounds c v', hM2, fun j hj => ?_⟩⟩, fr⟩
  · rw [fr R (hlt h.self) (tag_ne h.self h3 (by decide)) (nb h.self (by decide))]; exact h.self
  · rw [fr K (hlt h1) (tag_ne h1 h3 (by decide)) (nb h1 (by decide))]; exact h1
  · obtain ⟨u, h5, h6, h7⟩ := h4 j hj
    by_cases e : j = c
    · subst e
      refine ⟨v', ?_, ?_, by simp [upd]⟩
      · have hlen : j < cs.size := (Array.getElem?_eq_some_iff.1 h5).1
        simp [hlen]
      · have e1 : upd T j (T j ++ [m]) j = T j ++ [m] := by simp [upd]
        rw [e1]
        refine own_keep (w := w1) (by simpa using ho) (fun k hk => Below.heap_setCell w1 ⟨M, j, none⟩ v' k ?_)
        obtain ⟨ys, hy⟩ := own_tag ho hk
        exact tag_ne hy hM1 (by decide)
    · refine ⟨u, ?_, ?_, by simp [upd, e, h7]⟩
      · rw [Array.getElem?_setIfInBounds, if_neg (fun h => e h.symm)]; exact h5
      · have e1 : upd T c (T c ++ [m]) j = T j := by simp [upd, e]
        rw [e1]
        refine own_keep h6 (fun k hk => ?_)
        obtain ⟨ys, hy⟩ := own_tag h6 hk
        refine fr k (hlt hy) (tag_ne hy h3 (by decide)) (fun e2 => e (hinj j c k hj hc (h7.symm.trans hk) e2.symm))

/-- All records. -/
structure Recs (w : World) (base kk n : Nat) (R M K : Nat → Nat) (mk : Nat → Nat → Bool) (wt : Nat → Int) (T : Nat → Nat → List Int) (B : Nat → Nat → Option Nat) : Prop where
  each : ∀ i, i < kk → RecAt w base (R i) (M i) (K i) n (mk i) (wt i) (T i) (B i)
  inj : ∀ i j i' j' k, i < kk → i' < kk → j < n → j' < n → B i j = some k → B i' j' = some k → i = i' ∧ j = j'
  apart : ∀ i i', i < kk → i' < kk → M i = M i' → i = i'

theorem Recs.keep {w w' : World} {base kk n : Nat} {R M K : Nat → Nat} {mk : Nat → Nat → Bool} {wt : Nat → Int} {T : Nat → Nat → List Int} {B : Nat → Nat → Option Nat} (h : Recs w base kk n R M K mk wt T B) (hb : ∀ k, k < w.heap.size → w'.heap[k]? = w.heap[k]?) : Recs w' base kk n R M K mk wt T B := by
  have hlt : ∀ {k : Nat} {x : Obj}, w.heap[k]? = some x → k < w.heap.size := fun h => (Array.getElem?_eq_some_iff.1 h).1
  refine ⟨fun i hi => ?_, h.inj, h.apart⟩
  have hr := h.each i hi
  obtain ⟨ks, h1, h2⟩ := hr.mrk
  obtain ⟨cs, h3, h4⟩ := hr.msg
  exact hr.keep (hb _ (hlt hr.self)) (hb _ (hlt h1)) (hb _ (hlt h3)) (fun j hj k hk => by
    obtain ⟨ys, hy⟩ := hr.tag hj hk
    exact hb k (hlt hy))

theorem Recs.push {w w1 : World} {base kk n i c : Nat} {R M K : Nat → Nat} {mk : Nat → Nat → Bool} {wt : Nat → Int} {m : Int} {T : Nat → Nat → List Int} {B : Nat → Nat → Option Nat} {v v' : Value} {o : Obj} (h : Recs w base kk n R M K mk wt T B) (hi : i < kk) (hc : c < n)
    (hv : v.ownBlock = B i c) (hg : (w.alloc o).grownBy w1 v.ownBlock) (ho : w1.ownsRow base 3 1 v' ((T i c).length + 1) ((T i c).map (Value.int .i64) ++ [.int .i64 m])) (hl : v'.ownBlock = v.ownBlock ∨ v'.ownBlock = some (w.alloc o).heap.size) :
    Recs (w1.setCell ⟨M i, c, none⟩ v') base kk n R M K mk wt (upd T i (upd (T i) c (T i c ++ [m]))) (upd B i (upd (B i) c v'.ownBlock)) ∧ ∀ k, k < w.heap.size → k ≠ M i → some k ≠ B i c → (w1.setCell ⟨M i, c, none⟩ v').heap[k]? = w.heap[k]? := by
  have hlt : ∀ {k : Nat} {x : Obj}, w.heap[k]? = some x → k < w.heap.size := fun h => (Array.getElem?_eq_some_iff.1 h).1
  obtain ⟨P1, P2⟩ := (h.each i hi).push hc (fun a b k ha hb h1 h2 => (h.inj i a i b k hi hi ha hb h1 h2).2) hv hg ho hl
  have blt : ∀ a b k, a < kk → b < n → B a b = some k → k < w.heap.size := fun a b k ha hb hk => by
    obtain ⟨ys, hy⟩ := (h.each a ha).tag hb hk
    exact hlt hy
  have hsz : (w.alloc o).heap.size = w.heap.size + 1 := by simp
  refine ⟨⟨fun a ha => ?_, ?_, h.apart⟩, P2⟩
  · by_cases e : a = i
    · subst e
      have e1 : upd T a (upd (T a) c (T a c ++ [m])) a = upd (T a) c (T a c ++ [m]) := by simp [upd]
      have e2 : upd B a (upd (B a) c v'.ownBlock) a = upd (B a) c v'.ownBlock := by simp [upd]
      rw [e1, e2]
      exact P1
    · have e1 : upd T i (upd (T i) c (T i c ++ [m])) a = T a := by simp [upd, e]
      have e2 : upd B i (upd (B i) c v'.ownBlock) a = B a := by simp [upd, e]
      rw [e1, e2]
      have hr := h.each a ha
      obtain ⟨ks, h1, h2⟩ := hr.mrk
      obtain ⟨cs, h3, h4⟩ := hr.msg
      obtain ⟨cs', h3', _⟩ := (h.each i hi).msg
      have nb : ∀ {k : Nat} {xs : Array Value} {t : TypeId}, w.heap[k]? = some (.cells xs t (0, 0)) → t ≠ 3 → some k ≠ B i c := fun hk ht e => by
        obtain ⟨ys, hy⟩ := (h.each i hi).tag hc e.symm
        exact tag_ne hk hy ht rfl
      refine hr.keep (P2 _ (hlt hr.self) (tag_ne hr.self h3' (by decide)) (nb hr.self (by decide))) (P2 _ (hlt h1) (tag_ne h1 h3' (by decide)) (nb h1 (by decide))) (P2 _ (hlt h3) (fun e' => e (h.apart a i ha hi e')) (nb h3 (by decide))) (fun j hj k hk => ?_)
      obtain ⟨ys, hy⟩ := hr.tag hj hk
      exact P2 k (hlt hy) (tag_ne hy h3' (by decide)) (fun e' => e (h.inj a j i c k ha hi hj hc hk e'.symm).1)
  · intro a b a' b' k ha ha' hb hb' h1 h2
    have key : ∀ x y, x < kk → y < n → upd B i (upd (B i) c v'.ownBlock) x y = some k → (x = i ∧ y = c ∧ v'.ownBlock = some k) ∨ (¬ (x = i ∧ y = c) ∧ B x y = some k) := fun x y hx hy hk => by
      by_cases e : x = i
      · subst e
        by_cases e' : y = c
        · subst e'
          exact .inl ⟨rfl, rfl, by simpa [upd] using hk⟩
        · exact .inr ⟨fun h => e' h.2, by simpa [upd, e'] using hk⟩
      · exact .inr ⟨fun h => e h.1, by simpa [upd, e] using hk⟩
    have clash : ∀ x y, x < kk → y < n → ¬ (x = i ∧ y = c) → B x y = some k → v'.ownBlock = some k → False := fun x y hx hy hne hk hv' => by
      rcases hl with e | e
      · rw [e, hv] at hv'
        exact hne (h.inj x y i c k hx hi hy hc hk hv')
      · rw [e] at hv'
        have := blt x y k hx hy hk
        simp only [Option.some.injEq] at hv'
        omega
    rcases key a b ha hb h1 with ⟨e1, e2, e3⟩ | ⟨e1, e2⟩ <;> rcases key a' b' ha' hb' h2 with ⟨f1, f2, f3⟩ | ⟨f1, f2⟩
    · exact ⟨e1.trans f1.symm, e2.trans f2.symm⟩
    · exact (clash a' b' ha' hb' f1 f2 e3).elim
    · exact (clash a b ha hb e1 e2 f3).elim
    · exact h.inj a b a' b' k ha ha' hb hb' e2 f2

end Go.Proofs.YbulkagfuFmt

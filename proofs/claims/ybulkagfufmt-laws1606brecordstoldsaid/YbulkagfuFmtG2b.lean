import Derived.Test.YbulkagfuFmtG2a
namespace Go.Proofs.YbulkagfuFmt
open Go.RowKit Go.WideMaps Go.Maps Go.Extern.Stop Go.Stop Go.Extern Go.MuLone
set_option linter.unusedVariables false
set_option maxRecDepth 100000

/-- w' has grown from w; of the old blocks those of S may have turned. -/
structure But (S : Nat → Prop) (w w' : World) : Prop where
  os : w'.os = w.os
  tape : w'.tape = w.tape
  output : w'.output = w.output
  size : w.heap.size ≤ w'.heap.size
  block : ∀ k, k < w.heap.size → ¬ S k → w'.heap[k]? = w.heap[k]?
theorem But.refl (S : Nat → Prop) (w : World) : But S w w := ⟨rfl, rfl, rfl, Nat.le_refl _, fun _ _ _ => rfl⟩
theorem But.trans {S : Nat → Prop} {a b c : World} (h : But S a b) (k : But S b c) : But S a c :=
  ⟨k.os.trans h.os, k.tape.trans h.tape, k.output.trans h.output, Nat.le_trans h.size k.size, fun x hx hs => (k.block x (Nat.lt_of_lt_of_le hx h.size) hs).trans (h.block x hx hs)⟩
theorem But.setCell {S : Nat → Prop} {a w : World} (h : But S a w) {p : Addr} (hp : S p.block) (u : Value) : But S a (w.setCell p u) :=
  h.trans ⟨rfl, rfl, rfl, by simp [World.setCell], fun k hk hs => Below.heap_setCell _ _ _ _ (fun e => hs (e ▸ hp))⟩
theorem But.grown {S : Nat → Prop} {a w w' : World} {x : Option Nat} (h : But S a w) (hg : w.grownBy w' x) (hx : ∀ k, x = some k → S k) : But S a w' :=
  h.trans ⟨hg.os, hg.tape, hg.output, hg.size, fun k hk hs => hg.block k hk (fun e => hs (hx k e.symm))⟩
theorem But.whole {S : Nat → Prop} {a w w' : World} (h : But S a w) (hb : Below w.heap.size w w') : But S a w' :=
  h.trans ⟨hb.os, hb.tape, hb.output, hb.size, fun k hk _ => hb.block k hk⟩
theorem But.below {S : Nat → Prop} {a w w' : World} {b : Nat} (h : But S w w') (hb : Below b a w) (hS : ∀ k, S k → b ≤ k) (hbw : b ≤ w.heap.size) : Below b a w' :=
  hb.trans ⟨h.os, h.tape, h.output, h.size, fun k hk => h.block k (by omega) (fun hs => by have := hS k hs; omega)⟩

theorem owns_base {w : World} {b b' : Nat} {e : TypeId} {size : Nat} {v : Value} {n : Nat} {xs : List Value} (h : w.ownsRow b e size v n xs) (hb : b' ≤ b) : w.ownsRow b' e size v n xs := by
  refine ⟨h.1, ?_⟩
  rcases h.2 with h0 | ⟨g, cap, cur, e', h1, rest⟩
  · exact .inl h0
  · exact .inr ⟨g, cap, cur, e', Nat.le_trans hb h1, rest⟩
theorem RecAt.base {w : World} {b b' R M K n : Nat} {mk : Nat → Bool} {wt : Int} {T : Nat → List Int} {B : Nat → Option Nat} (h : RecAt w b R M K n mk wt T B) (hb : b' ≤ b) : RecAt w b' R M K n mk wt T B := by
  obtain ⟨cs, h1, h2⟩ := h.msg
  refine ⟨h.self, h.mrk, ⟨cs, h1, fun j hj => ?_⟩⟩
  obtain ⟨v, h3, h4, h5⟩ := h2 j hj
  exact ⟨v, h3, owns_base h4 hb, h5⟩

theorem Recs.add {w : World} {base s0 i n r mB kB : Nat} {R M K : Nat → Nat} {mk : Nat → Nat → Bool} {wt : Nat → Int} {T : Nat → Nat → List Int} {B : Nat → Nat → Option Nat} {Bn : Nat → Option Nat}
    (h : Recs w base i n R M K mk wt T B) (hn : RecAt w base r mB kB n (mk i) (wt i) (T i) Bn) (hi : ∀ a b k, a < n → b < n → Bn a = some k → Bn b = some k → a = b)
    (h1 : s0 ≤ mB) (h2 : ∀ j k, j < n → Bn j = some k → s0 ≤ k) (h3 : ∀ a, a < i → M a < s0) (h4 : ∀ a j k, a < i → j < n → B a j = some k → k < s0) :
    Recs w base (i + 1) n (upd R i r) (upd M i mB) (upd K i kB) mk wt T (upd B i Bn) := by
  have u1 : ∀ {α : Type} (f : Nat → α) (x : α), upd f i x i = x := fun f x => by simp [upd]
  have u2 : ∀ {α : Type} (f : Nat → α) (x : α) (a : Nat), a ≠ i → upd f i x a = f a := fun f x a ha => by simp [upd, ha]
  refine ⟨fun a ha => ?_, fun a j a' j' k ha ha' hj hj' e1 e2 => ?_, fun a a' ha ha' e => ?_⟩
  · by_cases e : a = i
    · subst e
      rw [u1, u1, u1, u1]; exact hn
    · rw [u2 _ _ _ e, u2 _ _ _ e, u2 _ _ _ e, u2 _ _ _ e]; exact h.each a (by omega)
  · by_cases ea : a = i <;> by_cases eb : a' = i
    · subst ea; subst eb
      rw [u1] at e1 e2
      exact ⟨rfl, hi j j' k hj hj' e1 e2⟩
    · subst ea
      rw [u1] at e1; rw [u2 _ _ _ eb] at e2
      have := h2 j k hj e1
      have := h4 a' j' k (by omega) hj' e2
      omega
    · subst eb
      rw [u1] at e2; rw [u2 _ _ _ ea] at e1
      have := h2 j' k hj' e2
      have := h4 a j k (by omega) hj e1
      omega
    · rw [u2 _ _ _ ea] at e1; rw [u2 _ _ _ eb] at e2
      exact h.inj a j a' j' k (by omega) (by omega) hj hj' e1 e2
  · by_cases ea : a = i <;> by_cases eb : a' = i
    · omega
    · subst ea
      rw [u1, u2 _ _ _ eb] at e
      have := h3 a' (by omega)
      omega
    · subst eb
      rw [u1, u2 _ _ _ ea] at e
      have := h3 a (by omega)
      omega
    · rw [u2 _ _ _ ea, u2 _ _ _ eb] at e
      exact h.apart a a' (by omega) (by omega) e

theorem Recs.lts {w : World} {base i n : Nat} {R M K : Nat → Nat} {mk : Nat → Nat → Bool} {wt : Nat → Int} {T : Nat → Nat → List Int} {B : Nat → Nat → Option Nat} (h : Recs w base i n R M K mk wt T B) :
    (∀ a, a < i → M a < w.heap.size) ∧ ∀ a j k, a < i → j < n → B a j = some k → k < w.heap.size := by
  constructor
  · intro a ha
    obtain ⟨cs, h1, _⟩ := (h.each a ha).msg
    exact (Array.getElem?_eq_some_iff.1 h1).1
  · intro a j k ha hj hk
    obtain ⟨cs, h1⟩ := (h.each a ha).tag hj hk
    exact (Array.getElem?_eq_some_iff.1 h1).1

theorem DR_congr (R R' : Nat → Nat) : ∀ k, (∀ a, a < k → R a = R' a) → DR R k = DR R' k
  | 0, _ => rfl
  | k + 1, h => by
    simp only [DR]
    rw [DR_congr R R' k (fun a ha => h a (by omega)), h k (by omega)]

theorem ownsMap_keep {H : Type} {P : Program} {k : TypeId} {R : Value → Option (DataW H × List MemPlace)} {w w' : World} {b n : Nat} {D : DataW H} (h : w.ownsMap P k R b n D) (hb : w'.heap[b]? = w.heap[b]?) : w'.ownsMap P k R b n D := by
  obtain ⟨es, clock, h1, rest⟩ := h
  exact ⟨es, clock, hb.trans h1, rest⟩
theorem ownsMap_lt {H : Type} {P : Program} {k : TypeId} {R : Value → Option (DataW H × List MemPlace)} {w : World} {b n : Nat} {D : DataW H} (h : w.ownsMap P k R b n D) : b < w.heap.size := by
  obtain ⟨es, clock, h1, rest⟩ := h
  exact (Array.getElem?_eq_some_iff.1 h1).1

/-- What loop 2 has behind i rounds. -/
structure Built (w0 : World) (base n kk rb mb : Nat) (marks lens : Int) (i : Nat) (wx : World) (R M K : Nat → Nat) (B : Nat → Nat → Option Nat) : Prop where
  recs : Recs wx base i n R M K (fun a => part (mkF marks a) n false) (fun a => (wtF marks a n : Nat)) (fun a => part (TF lens a) n []) B
  low : ∀ a, a < i → base ≤ M a
  row : ∃ cs, wx.heap[rb]? = some (.cells cs 40 (0, 0)) ∧ cs.size = kk ∧ ∀ a, a < i → cs[a]? = some (.pointer (some ⟨R a, 0, none⟩))
  data : 0 < kk → wx.ownsMap Ybaf.prog 49 ptrElem mb i (DR R i)
  but : But (fun k => k = rb ∨ k = mb) w0 wx

/-- One record more: w1 the world ahead of the round, w2 behind the record's making; then the row's store and the map's. -/
theorem Built.next {w0 w1 w2 w4 : World} {base n kk rb mb i r mB kB : Nat} {marks lens : Int} {R M K : Nat → Nat} {B : Nat → Nat → Option Nat} {Bn : Nat → Option Nat} (h : Built w0 base n kk rb mb marks lens i w1 R M K B) (hik : i < kk) (hk4 : kk ≤ 4) (hb : base ≤ w1.heap.size)
    (hB : Below w1.heap.size w1 w2) (hn : RecAt w2 w1.heap.size r mB kB n (part (mkF marks i) n false) (wtF marks i n : Nat) (part (TF lens i) n []) Bn) (hi : ∀ a b k, a < n → b < n → Bn a = some k → Bn b = some k → a = b) (hmB : w1.heap.size ≤ mB)
    (hD : w4.ownsMap Ybaf.prog 49 ptrElem mb (i + 1) ((DR R i).put (klit (i + 1)) (.lit (.int .i64 (r : Nat))))) (hg : (w2.setCell ⟨rb, i, none⟩ (.pointer (some ⟨r, 0, none⟩))).grownBy w4 (some mb)) :
    Built w0 base n kk rb mb marks lens (i + 1) w4 (upd R i r) (upd M i mB) (upd K i kB) (upd B i Bn) := by
  obtain ⟨l1, l2⟩ := h.recs.lts
  have hr2 : Recs w2 base i n R M K (fun a => part (mkF marks a) n false) (fun a => (wtF marks a n : Nat)) (fun a => part (TF lens a) n []) B := h.recs.keep (fun k hk => hB.block k hk)
  have hr3 := hr2.add (s0 := w1.heap.size) (r := r) (mB := mB) (kB := kB) (Bn := Bn) (hn.base hb) hi hmB (fun j k hj hk => hn.own_base hj hk) l1 l2
  obtain ⟨cs, q1, q2, q3⟩ := h.row
  have hrb : rb < w1.heap.size := (Array.getElem?_eq_some_iff.1 q1).1
  have q1' : w2.heap[rb]? = some (.cells cs 40 (0, 0)) := (hB.block rb hrb).trans q1
  have hr4 : Recs (w2.setCell ⟨rb, i, none⟩ (.pointer (some ⟨r, 0, none⟩))) base (i + 1) n _ _ _ _ _ _ _ := hr3.but (x := rb) (fun k _ hk => Below.heap_setCell w2 ⟨rb, i, none⟩ _ k hk) (fun cs' t ht => by rw [q1'] at ht; simp at ht; rw [← ht.2]; decide)
  have hDm := h.data (by omega)
  have hmb : mb < w1.heap.size := ownsMap_lt hDm
  obtain ⟨es, cl, m1, _⟩ := hDm
  have hne : mb ≠ rb := fun e => by rw [e, q1] at m1; simp at m1
  have m2 : (w2.setCell ⟨rb, i, none⟩ (.pointer (some ⟨r, 0, none⟩))).heap[mb]? = some (.map es cl) := (Below.heap_setCell w2 ⟨rb, i, none⟩ _ mb hne).trans ((hB.block mb hmb).trans m1)
  have hr5 : Recs w4 base (i + 1) n _ _ _ _ _ _ _ := hr4.but (x := mb) (fun k hk hne => hg.block k hk (by simpa using hne)) (fun cs' t ht => by rw [m2] at ht; simp at ht)
  refine ⟨hr5, fun a ha => ?_, ⟨cs.setIfInBounds i (.pointer (some ⟨r, 0, none⟩)), ?_, by simpa using q2, fun a ha => ?_⟩, fun _ => ?_, ?_⟩
  · by_cases e : a = i
    · simp [upd, e]; omega
    · simp [upd, e]; exact h.low a (by omega)
  · rw [hg.block rb (by simp [World.setCell]; exact Nat.lt_of_lt_of_le hrb hB.size) (by simpa using fun e => hne e.symm)]
    exact heap_setCell_same w2 rb i cs 40 _ q1'
  · by_cases e : a = i
    · subst e
      simp [upd, q2, hik]
    · rw [Array.getElem?_setIfInBounds, if_neg (fun h => e h.symm), q3 a (by omega)]
      simp [upd, e]
  · have e : DR (upd R i r) (i + 1) = (DR R i).put (klit (i + 1)) (.lit (.int .i64 (r : Nat))) := by
      simp only [DR]
      rw [DR_congr (upd R i r) R i (fun a ha => by simp [upd, show a ≠ i by omega])]
      simp [upd]
    rw [e]; exact hD
  · exact ((h.but.whole hB).setCell (p := ⟨rb, i, none⟩) (.inl rfl) _).grown hg (fun k hk => .inr (by simpa using hk.symm))

end Go.Proofs.YbulkagfuFmt

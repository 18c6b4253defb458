import Derived.Test.YbulkagfuProg
import Derived.WalkKit
import Derived.WalkSpells
import Derived.WalkLawsBesides
import Derived.OwnWalk
import Derived.Below
namespace Go.Proofs.Ybulkagfu.Split
open Go.RowKit
set_option linter.unusedVariables false
set_option maxRecDepth 100000

theorem hide {p : Prop} (h : p) : Hid p := h
theorem unhide {p : Prop} (h : Hid p) : p := h

/-- A world that has turned in the blocks from lo up to hi alone, and may have grown. -/
structure In (lo hi : Nat) (w w' : World) : Prop where
  os : w'.os = w.os
  tape : w'.tape = w.tape
  output : w'.output = w.output
  size : w.heap.size ≤ w'.heap.size
  block : ∀ k, k < w.heap.size → (k < lo ∨ hi ≤ k) → w'.heap[k]? = w.heap[k]?

theorem In.refl (lo hi : Nat) (w : World) : In lo hi w w := ⟨rfl, rfl, rfl, Nat.le_refl _, fun _ _ _ => rfl⟩
theorem In.trans {lo hi : Nat} {a b c : World} (h : In lo hi a b) (k : In lo hi b c) : In lo hi a c :=
  ⟨k.os.trans h.os, k.tape.trans h.tape, k.output.trans h.output, Nat.le_trans h.size k.size, fun i hi ho => (k.block i (Nat.lt_of_lt_of_le hi h.size) ho).trans (h.block i hi ho)⟩
theorem In.mono {lo hi lo' hi' : Nat} {a b : World} (h : In lo hi a b) (h1 : lo' ≤ lo) (h2 : hi ≤ hi') : In lo' hi' a b :=
  ⟨h.os, h.tape, h.output, h.size, fun k hk ho => h.block k hk (by omega)⟩
theorem In.drew {lo hi : Nat} {a b : World} (h : In lo hi a b) : In lo hi a b.drew := ⟨h.os, h.tape, h.output, h.size, h.block⟩
theorem In.setCell {lo hi : Nat} {a b : World} (h : In lo hi a b) {p : Addr} (h1 : lo ≤ p.block) (h2 : p.block < hi) (u : Value) : In lo hi a (b.setCell p u) :=
  ⟨h.os, h.tape, h.output, by simpa [World.setCell] using h.size, fun k hk ho => (Below.heap_setCell b p u k (by omega)).trans (h.block k hk ho)⟩
theorem In.cell {lo hi : Nat} {a b : World} (h : In lo hi a b) {p : Addr} {v : Value} (hp : a.cell? p = some v) (ho : p.block < lo ∨ hi ≤ p.block) : b.cell? p = some v :=
  (World.cell?_of_block (w := a) (h.block p.block (World.block_lt_of_cell? a p hp) ho)).trans hp

/-- A tree that can be read: its nodes lie in the blocks from lo up to hi. -/
def Rd (w : World) (lo hi : Nat) : Nat → Value → List Int → Prop
  | 0, v, ks => v = .pointer none ∧ ks = []
  | d + 1, v, ks => (v = .pointer none ∧ ks = []) ∨ ∃ (tb mb : Nat) (l r : Value) (kl : List Int) (k : Int) (kr : List Int), v = .pointer (some ⟨tb, 0, none⟩) ∧ lo ≤ tb ∧ tb < hi ∧ lo ≤ mb ∧ mb < hi ∧ tb < w.heap.size ∧ mb < w.heap.size ∧
      w.cell? ⟨tb, 1, none⟩ = some (.pointer (some ⟨mb, 0, none⟩)) ∧ w.cell? ⟨tb, 2, none⟩ = some l ∧ w.cell? ⟨tb, 3, none⟩ = some r ∧ w.cell? ⟨mb, 1, none⟩ = some (.int .u64 k) ∧ Rd w lo hi d l kl ∧ Rd w lo hi d r kr ∧ ks = kl ++ k :: kr

/-- A tree whose two branches lie apart from each other and from the root. -/
def Tr (w : World) : Nat → Nat → Nat → Value → List Int → Prop
  | 0, lo, hi, v, ks => v = .pointer none ∧ ks = []
  | d + 1, lo, hi, v, ks => (v = .pointer none ∧ ks = []) ∨ ∃ (tb mb m1 m2 : Nat) (l r : Value) (kl : List Int) (k : Int) (kr : List Int), v = .pointer (some ⟨tb, 0, none⟩) ∧ lo ≤ tb ∧ tb < m1 ∧ lo ≤ mb ∧ mb < m1 ∧ mb ≠ tb ∧ m1 ≤ m2 ∧ m2 ≤ hi ∧ tb < w.heap.size ∧ mb < w.heap.size ∧
      w.cell? ⟨tb, 1, none⟩ = some (.pointer (some ⟨mb, 0, none⟩)) ∧ w.cell? ⟨tb, 2, none⟩ = some l ∧ w.cell? ⟨tb, 3, none⟩ = some r ∧ w.cell? ⟨mb, 1, none⟩ = some (.int .u64 k) ∧ (∀ t, w.frozen? ⟨tb, t, none⟩ = false) ∧ Tr w d m1 m2 l kl ∧ Tr w d m2 hi r kr ∧ ks = kl ++ k :: kr

theorem Rd.of_block {w w' : World} {lo hi : Nat} (hs : w.heap.size ≤ w'.heap.size) (hb : ∀ k, lo ≤ k → k < hi → k < w.heap.size → w'.heap[k]? = w.heap[k]?) : ∀ (d : Nat) (v : Value) (ks : List Int), Rd w lo hi d v ks → Rd w' lo hi d v ks
  | 0, v, ks, h => h
  | d + 1, v, ks, h => by
    rcases h with h | ⟨tb, mb, l, r, kl, k, kr, h1, h2, h3, h4, h5, h6, h7, c1, c2, c3, c4, hl, hr, e⟩
    · exact .inl h
    · have bt := hb tb h2 h3 h6
      have bm := hb mb h4 h5 h7
      exact .inr ⟨tb, mb, l, r, kl, k, kr, h1, h2, h3, h4, h5, by omega, by omega, (World.cell?_of_block (w := w) bt).trans c1, (World.cell?_of_block (w := w) bt).trans c2, (World.cell?_of_block (w := w) bt).trans c3, (World.cell?_of_block (w := w) bm).trans c4, Rd.of_block hs hb d l kl hl, Rd.of_block hs hb d r kr hr, e⟩

theorem Rd.mono {w : World} {lo hi lo' hi' : Nat} (h1 : lo' ≤ lo) (h2 : hi ≤ hi') : ∀ (d : Nat) (v : Value) (ks : List Int), Rd w lo hi d v ks → Rd w lo' hi' d v ks
  | 0, v, ks, h => h
  | d + 1, v, ks, h => by
    rcases h with h | ⟨tb, mb, l, r, kl, k, kr, g1, g2, g3, g4, g5, g6, g7, c1, c2, c3, c4, hl, hr, e⟩
    · exact .inl h
    · exact .inr ⟨tb, mb, l, r, kl, k, kr, g1, by omega, by omega, by omega, by omega, g6, g7, c1, c2, c3, c4, Rd.mono h1 h2 d l kl hl, Rd.mono h1 h2 d r kr hr, e⟩

theorem Rd.succ {w : World} {lo hi : Nat} : ∀ (d : Nat) (v : Value) (ks : List Int), Rd w lo hi d v ks → Rd w lo hi (d + 1) v ks
  | 0, v, ks, h => .inl h
  | d + 1, v, ks, h => by
    rcases h with h | ⟨tb, mb, l, r, kl, k, kr, g1, g2, g3, g4, g5, g6, g7, c1, c2, c3, c4, hl, hr, e⟩
    · exact .inl h
    · exact .inr ⟨tb, mb, l, r, kl, k, kr, g1, g2, g3, g4, g5, g6, g7, c1, c2, c3, c4, Rd.succ d l kl hl, Rd.succ d r kr hr, e⟩

theorem Tr.of_block {w w' : World} (hs : w.heap.size ≤ w'.heap.size) : ∀ (d lo hi : Nat) (v : Value) (ks : List Int), (∀ k, lo ≤ k → k < hi → k < w.heap.size → w'.heap[k]? = w.heap[k]?) → Tr w d lo hi v ks → Tr w' d lo hi v ks
  | 0, lo, hi, v, ks, hb, h => h
  | d + 1, lo, hi, v, ks, hb, h => by
    rcases h with h | ⟨tb, mb, m1, m2, l, r, kl, k, kr, h1, h2, h3, h4, h5, hne, h8, h9, h6, h7, c1, c2, c3, c4, hf, hl, hr, e⟩
    · exact .inl h
    · have bt := hb tb h2 (by omega) h6
      have bm := hb mb h4 (by omega) h7
      exact .inr ⟨tb, mb, m1, m2, l, r, kl, k, kr, h1, h2, h3, h4, h5, hne, h8, h9, by omega, by omega, (World.cell?_of_block (w := w) bt).trans c1, (World.cell?_of_block (w := w) bt).trans c2, (World.cell?_of_block (w := w) bt).trans c3, (World.cell?_of_block (w := w) bm).trans c4, fun t => (World.frozen?_of_block (w := w) bt).trans (hf t),
        Tr.of_block hs d m1 m2 l kl (fun k a b c => hb k (by omega) (by omega) c) hl, Tr.of_block hs d m2 hi r kr (fun k a b c => hb k (by omega) (by omega) c) hr, e⟩

theorem Tr.rd {w : World} : ∀ (d lo hi : Nat) (v : Value) (ks : List Int), Tr w d lo hi v ks → Rd w lo hi d v ks
  | 0, lo, hi, v, ks, h => h
  | d + 1, lo, hi, v, ks, h => by
    rcases h with h | ⟨tb, mb, m1, m2, l, r, kl, k, kr, h1, h2, h3, h4, h5, hne, h8, h9, h6, h7, c1, c2, c3, c4, hf, hl, hr, e⟩
    · exact .inl h
    · exact .inr ⟨tb, mb, l, r, kl, k, kr, h1, h2, by omega, h4, by omega, h6, h7, c1, c2, c3, c4, Rd.mono (by omega) (by omega) d l kl (Tr.rd d m1 m2 l kl hl), Rd.mono (by omega) (by omega) d r kr (Tr.rd d m2 hi r kr hr), e⟩

/-- The value of a tree is a pointer. -/
theorem Rd.shape {w : World} {lo hi d : Nat} {v : Value} {ks : List Int} (h : Rd w lo hi d v ks) : ∃ p, v = .pointer p := by
  cases d with
  | zero => exact ⟨_, h.1⟩
  | succ d =>
    rcases h with h | ⟨tb, _, _, _, _, _, _, h1, _⟩
    · exact ⟨_, h.1⟩
    · exact ⟨_, h1⟩

/-- What a split leaves. -/
structure Out (w w' : World) (lo hi d : Nat) (s : Int) (ks : List Int) (b r : Value) (k1 k2 : List Int) : Prop where
  before : Rd w' lo hi d b k1
  rest : Rd w' lo hi d r k2
  whole : ks = k1 ++ k2
  lt : List.Pairwise (· < ·) ks → ∀ x ∈ k1, x < s
  ge : List.Pairwise (· < ·) ks → ∀ x ∈ k2, s ≤ x
  keep : In lo hi w w'

theorem split_nil (s : Int) (w : World) : Calls Yba.prog 9 #[.pointer none, .int .u64 s] w fun e w' => e = .returned (.tuple #[.pointer none, .pointer none]) ∧ w' = w := by
  go_enter Yba.func9, Yba.ntmps9
  go_wp2
  go_ret2
  exact ⟨rfl, rfl⟩

theorem Rd.nil (w : World) (lo hi d : Nat) : Rd w lo hi d (.pointer none) [] := by
  cases d
  · exact ⟨rfl, rfl⟩
  · exact .inl ⟨rfl, rfl⟩
theorem Out.nil (w : World) (lo hi d : Nat) (s : Int) : Out w w lo hi d s [] (.pointer none) (.pointer none) [] [] :=
  ⟨Rd.nil _ _ _ _, Rd.nil _ _ _ _, rfl, fun _ _ h => absurd h (by simp), fun _ _ h => absurd h (by simp), In.refl _ _ _⟩

theorem out_right {w w1 : World} {lo hi d tb mb m1 m2 : Nat} {l r b1 r1 : Value} {kl kr k1 k2 : List Int} {k s : Int} (h2 : lo ≤ tb) (h3 : tb < m1) (h4 : lo ≤ mb) (h5 : mb < m1) (hne : mb ≠ tb) (h8 : m1 ≤ m2) (h9 : m2 ≤ hi) (h6 : tb < w.heap.size) (h7 : mb < w.heap.size)
    (c1 : w.cell? ⟨tb, 1, none⟩ = some (.pointer (some ⟨mb, 0, none⟩))) (c2 : w.cell? ⟨tb, 2, none⟩ = some l) (c3 : w.cell? ⟨tb, 3, none⟩ = some r) (c4 : w.cell? ⟨mb, 1, none⟩ = some (.int .u64 k)) (hl : Tr w d m1 m2 l kl) (O : Out w w1 m2 hi d s kr b1 r1 k1 k2) (hk : k < s) :
    Out w (w1.setCell ⟨tb, 3, none⟩ b1) lo hi (d + 1) s (kl ++ k :: kr) (.pointer (some ⟨tb, 0, none⟩)) r1 (kl ++ k :: k1) k2 := by
  have e := O.keep
  have sz : (w1.setCell ⟨tb, 3, none⟩ b1).heap.size = w1.heap.size := by simp [World.setCell]
  have es := e.size
  have d1 := e.cell c1 (.inl (by show tb < m2; omega))
  have d2 := e.cell c2 (.inl (by show tb < m2; omega))
  have d3 := e.cell c3 (.inl (by show tb < m2; omega))
  have d4 := e.cell c4 (.inl (by show mb < m2; omega))
  have bl : ∀ x, x ≠ tb → (w1.setCell ⟨tb, 3, none⟩ b1).heap[x]? = w1.heap[x]? := fun x hx => Below.heap_setCell w1 _ _ x hx
  have L := Rd.mono (lo' := lo) (hi' := hi) (by omega) (by omega) d l kl (Tr.rd d m1 m2 l kl (Tr.of_block (w' := w1.setCell ⟨tb, 3, none⟩ b1) (by omega) d m1 m2 l kl (fun x a b c => (bl x (by omega)).trans (e.block x c (.inl (by omega)))) hl))
  have R := Rd.mono (lo' := lo) (hi' := hi) (by omega) (by omega) d b1 k1 (Rd.of_block (w' := w1.setCell ⟨tb, 3, none⟩ b1) (by omega) (fun x a b c => bl x (by omega)) d b1 k1 O.before)
  have S := Rd.mono (lo' := lo) (hi' := hi) (by omega) (by omega) d r1 k2 (Rd.of_block (w' := w1.setCell ⟨tb, 3, none⟩ b1) (by omega) (fun x a b c => bl x (by omega)) d r1 k2 O.rest)
  have W := O.whole
  refine ⟨.inr ⟨tb, mb, l, b1, kl, k, k1, rfl, h2, by omega, h4, by omega, by omega, by omega, ?_, ?_, ?_, ?_, L, R, rfl⟩, Rd.succ d r1 k2 S, by rw [W]; simp, ?_, ?_, ?_⟩
  · rw [World.cell?_setCell_other _ _ _ _ (by simp)]; exact d1
  · rw [World.cell?_setCell_other _ _ _ _ (by simp)]; exact d2
  · exact World.cell?_setCell_same _ _ _ d3
  · rw [World.cell?_setCell_other _ _ _ _ (by simp)]; exact d4
  · intro hp x hx
    rw [List.pairwise_append] at hp
    obtain ⟨p1, p2, p3⟩ := hp
    rw [List.pairwise_cons] at p2
    rw [List.mem_append, List.mem_cons] at hx
    rcases hx with hx | rfl | hx
    · have := p3 x hx k (by simp); omega
    · exact hk
    · exact O.lt p2.2 x hx
  · intro hp x hx
    rw [List.pairwise_append] at hp
    obtain ⟨p1, p2, p3⟩ := hp
    rw [List.pairwise_cons] at p2
    exact O.ge p2.2 x hx
  · exact (e.mono (by omega) (by omega)).setCell (by show lo ≤ tb; omega) (by show tb < hi; omega) _

theorem out_left {w w1 : World} {lo hi d tb mb m1 m2 : Nat} {l r b1 r1 : Value} {kl kr k1 k2 : List Int} {k s : Int} (h2 : lo ≤ tb) (h3 : tb < m1) (h4 : lo ≤ mb) (h5 : mb < m1) (hne : mb ≠ tb) (h8 : m1 ≤ m2) (h9 : m2 ≤ hi) (h6 : tb < w.heap.size) (h7 : mb < w.heap.size)
    (c1 : w.cell? ⟨tb, 1, none⟩ = some (.pointer (some ⟨mb, 0, none⟩))) (c2 : w.cell? ⟨tb, 2, none⟩ = some l) (c3 : w.cell? ⟨tb, 3, none⟩ = some r) (c4 : w.cell? ⟨mb, 1, none⟩ = some (.int .u64 k)) (hr : Tr w d m2 hi r kr) (O : Out w w1 m1 m2 d s kl b1 r1 k1 k2) (hk : ¬ k < s) :
    Out w (w1.setCell ⟨tb, 2, none⟩ r1) lo hi (d + 1) s (kl ++ k :: kr) b1 (.pointer (some ⟨tb, 0, none⟩)) k1 (k2 ++ k :: kr) := by
  have e := O.keep
  have sz : (w1.setCell ⟨tb, 2, none⟩ r1).heap.size = w1.heap.size := by simp [World.setCell]
  have es := e.size
  have d1 := e.cell c1 (.inl (by show tb < m1; omega))
  have d2 := e.cell c2 (.inl (by show tb < m1; omega))
  have d3 := e.cell c3 (.inl (by show tb < m1; omega))
  have d4 := e.cell c4 (.inl (by show mb < m1; omega))
  have bl : ∀ x, x ≠ tb → (w1.setCell ⟨tb, 2, none⟩ r1).heap[x]? = w1.heap[x]? := fun x hx => Below.heap_setCell w1 _ _ x hx
  have R := Rd.mono (lo' := lo) (hi' := hi) (by omega) (by omega) d r kr (Tr.rd d m2 hi r kr (Tr.of_block (w' := w1.setCell ⟨tb, 2, none⟩ r1) (by omega) d m2 hi r kr (fun x a b c => (bl x (by omega)).trans (e.block x c (.inr (by omega)))) hr))
  have L := Rd.mono (lo' := lo) (hi' := hi) (by omega) (by omega) d r1 k2 (Rd.of_block (w' := w1.setCell ⟨tb, 2, none⟩ r1) (by omega) (fun x a b c => bl x (by omega)) d r1 k2 O.rest)
  have S := Rd.mono (lo' := lo) (hi' := hi) (by omega) (by omega) d b1 k1 (Rd.of_block (w' := w1.setCell ⟨tb, 2, none⟩ r1) (by omega) (fun x a b c => bl x (by omega)) d b1 k1 O.before)
  have W := O.whole
  refine ⟨Rd.succ d b1 k1 S, .inr ⟨tb, mb, r1, r, k2, k, kr, rfl, h2, by omega, h4, by omega, by omega, by omega, ?_, ?_, ?_, ?_, L, R, rfl⟩, by rw [W]; simp, ?_, ?_, ?_⟩
  · rw [World.cell?_setCell_other _ _ _ _ (by simp)]; exact d1
  · exact World.cell?_setCell_same _ _ _ d2
  · rw [World.cell?_setCell_other _ _ _ _ (by simp)]; exact d3
  · rw [World.cell?_setCell_other _ _ _ _ (by simp)]; exact d4
  · intro hp x hx
    rw [List.pairwise_append] at hp
    exact O.lt hp.1 x hx
  · intro hp x hx
    rw [List.pairwise_append] at hp
    obtain ⟨p1, p2, p3⟩ := hp
    rw [List.pairwise_cons] at p2
    rw [List.mem_append, List.mem_cons] at hx
    rcases hx with hx | rfl | hx
    · exact O.ge p1 x hx
    · omega
    · have := p2.1 x hx; omega
  · exact (e.mono (by omega) (by omega)).setCell (by show lo ≤ tb; omega) (by show tb < hi; omega) _

theorem split_any (s : Int) : ∀ (d lo hi : Nat) (v : Value) (ks : List Int) (w : World), Tr w d lo hi v ks →
    Calls Yba.prog 9 #[v, .int .u64 s] w fun e w' => ∃ b r k1 k2, e = .returned (.tuple #[b, r]) ∧ Out w w' lo hi d s ks b r k1 k2 := by
  intro d
  induction d with
  | zero =>
    rintro lo hi v ks w ⟨rfl, rfl⟩
    refine (split_nil s w).mono ?_
    rintro e w' ⟨rfl, rfl⟩
    exact ⟨_, _, [], [], rfl, Out.nil _ _ _ _ _⟩
  | succ d ih =>
    rintro lo hi v ks w (⟨rfl, rfl⟩ | ⟨tb, mb, m1, m2, l, r, kl, k, kr, rfl, h2, h3, h4, h5, hne, h8, h9, h6, h7, c1, c2, c3, c4, hf, hl, hr, rfl⟩)
    · refine (split_nil s w).mono ?_
      rintro e w' ⟨rfl, rfl⟩
      exact ⟨_, _, [], [], rfl, Out.nil _ _ _ _ _⟩
    · by_cases hk : k < s
      · have F := hide (fun (w1 : World) (b1 r1 : Value) (k1 k2 : List Int) (O : Out w w1 m2 hi d s kr b1 r1 k1 k2) => out_right h2 h3 h4 h5 hne h8 h9 h6 h7 c1 c2 c3 c4 hl O hk)
        have H := hide (ih m2 hi r kr w hr)
        have hrs := (Tr.rd _ _ _ _ _ hr).shape
        obtain ⟨rp, rfl⟩ := hrs
        have G := hide (fun (w1 : World) (b1 r1 : Value) (k1 k2 : List Int) (O : Out w w1 m2 hi d s kr b1 r1 k1 k2) => And.intro (O.keep.cell c3 (.inl (by show tb < m2; omega))) ((World.frozen?_of_block (w := w) (a := ⟨tb, 3, none⟩) (O.keep.block tb h6 (.inl (by omega)))).trans (hf 3)))
        clear ih hl hr
        go_enter Yba.func9, Yba.ntmps9
        go_wp2_with (go_at_call 9; refine (unhide H).mono ?_; rintro e w1 ⟨b1, r1, k1, k2, rfl, O⟩; obtain ⟨g1, g2⟩ := unhide G w1 b1 r1 k1 k2 O; obtain ⟨bp, rfl⟩ := O.before.shape; obtain ⟨rp1, rfl⟩ := O.rest.shape; have HO := hide O; clear O)
        go_ret2
        exact ⟨_, _, _, _, rfl, unhide F _ _ _ _ _ (unhide HO)⟩
      · have F := hide (fun (w1 : World) (b1 r1 : Value) (k1 k2 : List Int) (O : Out w w1 m1 m2 d s kl b1 r1 k1 k2) => out_left h2 h3 h4 h5 hne h8 h9 h6 h7 c1 c2 c3 c4 hr O hk)
        have H := hide (ih m1 m2 l kl w hl)
        have hrs := (Tr.rd _ _ _ _ _ hl).shape
        obtain ⟨rp, rfl⟩ := hrs
        have G := hide (fun (w1 : World) (b1 r1 : Value) (k1 k2 : List Int) (O : Out w w1 m1 m2 d s kl b1 r1 k1 k2) => And.intro (O.keep.cell c2 (.inl (by show tb < m1; omega))) ((World.frozen?_of_block (w := w) (a := ⟨tb, 2, none⟩) (O.keep.block tb h6 (.inl (by omega)))).trans (hf 2)))
        clear ih hl hr
        go_enter Yba.func9, Yba.ntmps9
        go_wp2_with (go_at_call 9; refine (unhide H).mono ?_; rintro e w1 ⟨b1, r1, k1, k2, rfl, O⟩; obtain ⟨g1, g2⟩ := unhide G w1 b1 r1 k1 k2 O; obtain ⟨bp, rfl⟩ := O.before.shape; obtain ⟨rp1, rfl⟩ := O.rest.shape; have HO := hide O; clear O)
        go_ret2
        exact ⟨_, _, _, _, rfl, unhide F _ _ _ _ _ (unhide HO)⟩

end Go.Proofs.Ybulkagfu.Split

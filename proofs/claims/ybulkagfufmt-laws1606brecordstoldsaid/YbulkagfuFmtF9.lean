import Derived.Test.YbulkagfuFmtG4
namespace Go.Proofs.YbulkagfuFmt
open Go.RowKit Go.WideMaps Go.Maps Go.Extern.Stop Go.Stop Go.Extern Go.MuLone
set_option linter.unusedVariables false
set_option maxRecDepth 100000

def part {α : Type} (f : Nat → α) (j : Nat) (z : α) : Nat → α := fun b => if b < j then f b else z
theorem part_zero {α : Type} (f : Nat → α) (z : α) : part f 0 z = fun _ => z := by funext b; simp [part]
theorem part_upd {α : Type} (f : Nat → α) (j : Nat) (z : α) : upd (part f j z) j (f j) = part f (j + 1) z := by
  funext b
  unfold upd part
  by_cases e : b = j
  · subst e; simp
  · by_cases h : b < j
    · simp [e, h, show b < j + 1 by omega]
    · simp [e, h, show ¬ b < j + 1 by omega]
theorem part_skip {α : Type} (f : Nat → α) (j : Nat) (z : α) (h : f j = z) : part f j z = part f (j + 1) z := by
  rw [← part_upd, h]
  funext b
  unfold upd part
  by_cases e : b = j
  · subst e; simp
  · simp [e]

def mkF (marks : Int) (i j : Nat) : Bool := bits BinOp.and IntKind.u64 (marks / 2 ^ (i * 4 + j)) 1 == 1
def lI (lens : Int) (i j : Nat) : Int := bits BinOp.and IntKind.u64 (lens / 2 ^ (2 * (i * 4 + j))) 3
theorem and3 (x : Int) : 0 ≤ bits BinOp.and IntKind.u64 x 3 ∧ bits BinOp.and IntKind.u64 x 3 ≤ 3 := by
  have h : (BitVec.ofInt 64 x &&& BitVec.ofInt 64 3).toNat ≤ 3 := by
    rw [BitVec.toNat_and]
    exact Nat.le_trans Nat.and_le_right (by decide)
  have e : bits BinOp.and IntKind.u64 x 3 = IntKind.wrap .u64 ((BitVec.ofInt 64 x &&& BitVec.ofInt 64 3).toNat : Int) := rfl
  rw [e]
  generalize (BitVec.ofInt 64 x &&& BitVec.ofInt 64 3).toNat = a at h
  simp only [IntKind.wrap, IntKind.bits, IntKind.signed]
  simp
  omega
def lN (lens : Int) (i j : Nat) : Nat := (lI lens i j).toNat
theorem lN_le (lens : Int) (i j : Nat) : lN lens i j ≤ 3 := by have := and3 (lens / 2 ^ (2 * (i * 4 + j))); unfold lN lI; omega
theorem lN_eq (lens : Int) (i j : Nat) : lI lens i j = (lN lens i j : Int) := by have := and3 (lens / 2 ^ (2 * (i * 4 + j))); unfold lN lI; omega
/-- What lies in channel j of record i ahead of the message. -/
def TF (lens : Int) (i j : Nat) : List Int := (List.range (lN lens i j)).map fun x : Nat => valI i j x
theorem TF_len (lens : Int) (i j : Nat) : (TF lens i j).length = lN lens i j := by simp [TF]
/-- How many of the first j channels of record i wait. -/
def wtF (marks : Int) (i : Nat) : Nat → Nat
  | 0 => 0
  | j + 1 => wtF marks i j + if mkF marks i j then 0 else 1
theorem wtF_le (marks : Int) (i : Nat) : ∀ j, wtF marks i j ≤ j
  | 0 => by simp [wtF]
  | j + 1 => by have := wtF_le marks i j; unfold wtF; split <;> omega

theorem RecAt.mark {w : World} {base R M K n j : Nat} {mk : Nat → Bool} {wt : Int} {T : Nat → List Int} {B : Nat → Option Nat} (h : RecAt w base R M K n mk wt T B) (hj : j < n) (b : Bool) :
    RecAt (w.setCell ⟨K, j, none⟩ (.bool b)) base R M K n (upd mk j b) wt T B := by
  obtain ⟨ks, h1, h2⟩ := h.mrk
  obtain ⟨cs, h3, h4⟩ := h.msg
  have fr : ∀ k, k ≠ K → (w.setCell ⟨K, j, none⟩ (.bool b)).heap[k]? = w.heap[k]? := fun k hk => Below.heap_setCell w ⟨K, j, none⟩ _ k hk
  refine ⟨(fr R (tag_ne h.self h1 (by decide))).trans h.self, ⟨ks.setIfInBounds j (.bool b), heap_setCell_same w K j ks 4 _ h1, fun x hx => ?_⟩, ⟨cs, (fr M (tag_ne h3 h1 (by decide))).trans h3, fun x hx => ?_⟩⟩
  · by_cases e : x = j
    · subst e
      have := (Array.getElem?_eq_some_iff.1 (h2 x hx)).1
      simp [upd, this]
    · rw [Array.getElem?_setIfInBounds, if_neg (fun h => e h.symm), h2 x hx]
      simp [upd, e]
  · obtain ⟨v, h5, h6, h7⟩ := h4 x hx
    refine ⟨v, h5, own_keep h6 (fun k hk => fr k ?_), h7⟩
    obtain ⟨ys, hy⟩ := own_tag h6 hk
    exact tag_ne hy h1 (by decide)

theorem RecAt.wait {w : World} {base R M K n : Nat} {mk : Nat → Bool} {wt : Int} {T : Nat → List Int} {B : Nat → Option Nat} (h : RecAt w base R M K n mk wt T B) (wt' : Int) :
    RecAt (w.setCell ⟨R, 3, none⟩ (.int .i64 wt')) base R M K n mk wt' T B := by
  obtain ⟨ks, h1, h2⟩ := h.mrk
  obtain ⟨cs, h3, h4⟩ := h.msg
  have fr : ∀ k, k ≠ R → (w.setCell ⟨R, 3, none⟩ (.int .i64 wt')).heap[k]? = w.heap[k]? := fun k hk => Below.heap_setCell w ⟨R, 3, none⟩ _ k hk
  refine ⟨(heap_setCell_same w R 3 _ 44 _ h.self).trans rfl, ⟨ks, (fr K (tag_ne h1 h.self (by decide))).trans h1, h2⟩, ⟨cs, (fr M (tag_ne h3 h.self (by decide))).trans h3, fun x hx => ?_⟩⟩
  obtain ⟨v, h5, h6, h7⟩ := h4 x hx
  refine ⟨v, h5, own_keep h6 (fun k hk => fr k ?_), h7⟩
  obtain ⟨ys, hy⟩ := own_tag h6 hk
  exact tag_ne hy h.self (by decide)

theorem RecAt.row {w : World} {base R M K n j : Nat} {mk : Nat → Bool} {wt : Int} {T : Nat → List Int} {B : Nat → Option Nat} {v : Value} {xs : List Int} (h : RecAt w base R M K n mk wt T B) (hj : j < n) (hv : w.ownsRow base 3 1 v xs.length (xs.map (Value.int .i64))) :
    RecAt (w.setCell ⟨M, j, none⟩ v) base R M K n mk wt (upd T j xs) (upd B j v.ownBlock) := by
  obtain ⟨ks, h1, h2⟩ := h.mrk
  obtain ⟨cs, h3, h4⟩ := h.msg
  have fr : ∀ k, k ≠ M → (w.setCell ⟨M, j, none⟩ v).heap[k]? = w.heap[k]? := fun k hk => Below.heap_setCell w ⟨M, j, none⟩ _ k hk
  refine ⟨(fr R (tag_ne h.self h3 (by decide))).trans h.self, ⟨ks, (fr K (tag_ne h1 h3 (by decide))).trans h1, h2⟩, ⟨cs.setIfInBounds j v, heap_setCell_same w M j cs 46 _ h3, fun x hx => ?_⟩⟩
  obtain ⟨u, h5, h6, h7⟩ := h4 x hx
  by_cases e : x = j
  · subst e
    have := (Array.getElem?_eq_some_iff.1 h5).1
    refine ⟨v, by simp [this], ?_, by simp [upd]⟩
    have e1 : upd T x xs x = xs := by simp [upd]
    rw [e1]
    refine own_keep hv (fun k hk => fr k ?_)
    obtain ⟨ys, hy⟩ := own_tag hv hk
    exact tag_ne hy h3 (by decide)
  · refine ⟨u, ?_, ?_, by simp [upd, e, h7]⟩
    · rw [Array.getElem?_setIfInBounds, if_neg (fun h => e h.symm)]; exact h5
    · have e1 : upd T j xs x = T x := by simp [upd, e]
      rw [e1]
      refine own_keep h6 (fun k hk => fr k ?_)
      obtain ⟨ys, hy⟩ := own_tag h6 hk
      exact tag_ne hy h3 (by decide)

theorem RecAt.same {w w' : World} {base R M K n : Nat} {mk : Nat → Bool} {wt : Int} {T : Nat → List Int} {B : Nat → Option Nat} (h : RecAt w base R M K n mk wt T B) (hb : ∀ k, k < w.heap.size → w'.heap[k]? = w.heap[k]?) : RecAt w' base R M K n mk wt T B := by
  have hlt : ∀ {k : Nat} {x : Obj}, w.heap[k]? = some x → k < w.heap.size := fun h => (Array.getElem?_eq_some_iff.1 h).1
  obtain ⟨ks, h1, h2⟩ := h.mrk
  obtain ⟨cs, h3, h4⟩ := h.msg
  exact h.keep (hb _ (hlt h.self)) (hb _ (hlt h1)) (hb _ (hlt h3)) (fun j hj k hk => by
    obtain ⟨ys, hy⟩ := h.tag hj hk
    exact hb k (hlt hy))

theorem owns_new {w : World} {base g l : Nat} {cs : Array Value} {f : Nat → Int} (hg : base ≤ g) (h : w.heap[g]? = some (.cells cs 3 (0, 0))) (hl : cs.size = l) (hl3 : l ≤ 3) (hc : ∀ x, x < l → cs[x]? = some (.int .i64 (f x))) :
    w.ownsRow base 3 1 (.slice (some ⟨g, 0, none⟩) l l) l (((List.range l).map f).map (Value.int .i64)) := by
  refine ⟨by simp, .inr ⟨g, l, cs, rfl, hg, h, Nat.le_refl _, by unfold maxLen; omega, by simpa using hl, ?_⟩⟩
  apply List.ext_getElem?
  intro x
  simp only [Nat.mul_one, List.getElem?_take, List.getElem?_map]
  by_cases hx : x < l
  · rw [if_pos hx]
    have := hc x hx
    rw [Array.getElem?_toList, this, List.getElem?_range hx]
    rfl
  · rw [if_neg hx]
    rw [List.getElem?_eq_none (by simp; omega)]
    rfl

end Go.Proofs.YbulkagfuFmt

import Derived.Test.YbulkagdqDoorNq
namespace Go.Proofs.YbulkagdqDoor
open Go.RowKit
set_option linter.unusedVariables false
set_option maxRecDepth 100000

theorem InBytes.below {w X : World} (hX : Below w.heap.size w X) {a : Option Addr} {n : Nat} {zs : List Int} (h : InBytes w a n zs) : InBytes X a n zs := ⟨h.len, h.bd, fun h0 => by
  obtain ⟨b, off, h1, h2, h3⟩ := h.at_ h0
  exact ⟨b, off, h1, Nat.lt_of_lt_of_le h2 hX.size, fun i hi => (hX.cell (p := ⟨b, off + i, none⟩) h2).trans (h3 i hi)⟩⟩

/-- A row of ids, apart one from the other. -/
structure IdsF (w : World) (va : Option Addr) (k base gi : Nat) (f : Nat → Nat) : Prop where
  hva : 0 < k → va = some ⟨gi, 0, none⟩ ∧ base ≤ gi ∧ ∃ cs, w.heap[gi]? = some (.cells cs 5 (0, 0))
  at_ : ∀ j, j < k → w.cell? ⟨gi, j, none⟩ = some (.int .u8 (f j : Nat))
  bd : ∀ j, j < k → f j < 256
  inj : ∀ i j, i < k → j < k → f i = f j → i = j
theorem IdsF.of_block {w w' : World} {va : Option Addr} {k base gi : Nat} {f : Nat → Nat} (h : IdsF w va k base gi f) (hb : 0 < k → w'.heap[gi]? = w.heap[gi]?) : IdsF w' va k base gi f := by
  refine ⟨fun h0 => ?_, fun j hj => ?_, h.bd, h.inj⟩
  · obtain ⟨h1, h2, cs, h3⟩ := h.hva h0
    exact ⟨h1, h2, cs, (hb h0).trans h3⟩
  · exact (World.cell?_of_block (w := w) (a := ⟨gi, j, none⟩) (hb (by omega))).trans (h.at_ j hj)
theorem IdsF.kp {D : List Nat} {w w' : World} {va : Option Addr} {k base gi : Nat} {f : Nat → Nat} (h : IdsF w va k base gi f) (hk : Kp D w w') (hD : ∀ x ∈ D, ∃ cs t, w.heap[x]? = some (.cells cs t (0, 0)) ∧ t ≠ 5) : IdsF w' va k base gi f :=
  h.of_block (fun h0 => by
    obtain ⟨_, _, cs, h3⟩ := h.hva h0
    exact hk.block gi (lt_of_heap h3) (fun hx => by
      obtain ⟨cs', t, h4, h5⟩ := hD gi hx
      exact heap_ne h4 h3 h5 rfl))
theorem idsF_nil (w : World) (base : Nat) : IdsF w none 0 base 0 (fun _ => 0) := ⟨fun h => absurd h (by omega), fun j h => absurd h (by omega), fun j h => absurd h (by omega), fun i j h => absurd h (by omega)⟩
theorem idsF_of {w : World} {base : Nat} {va : Option Addr} {vc : Nat} {l : List Int} (how : w.ownsRow base 5 1 (.slice va l.length vc) l.length (l.map (Value.int .u8))) (hbd : ∀ z ∈ l, 0 ≤ z ∧ z ≤ 255) (hnd : l.Nodup) :
    ∃ gi f, IdsF w va l.length base gi f := by
  rcases Nat.eq_zero_or_pos l.length with h0 | h0
  · exact ⟨0, fun _ => 0, fun h => absurd h (by omega), fun j h => absurd h (by omega), fun j h => absurd h (by omega), fun i j h => absurd h (by omega)⟩
  · obtain ⟨g, cap, cur, h2, h3, h4, h5, h6⟩ := own_form how (by intro h; injection h; omega)
    injection h2 with h2 _ h7
    have hget : ∀ j (h : j < l.length), (l.getD j 0) = l[j] := fun j h => by simp [List.getD_eq_getElem?_getD, List.getElem?_eq_getElem h]
    have hb : ∀ j (h : j < l.length), 0 ≤ l[j] ∧ l[j] ≤ 255 := fun j h => hbd _ (List.getElem_mem h)
    refine ⟨g, fun j => (l.getD j 0).toNat, fun _ => ⟨h2, h3, cur, h4⟩, fun j h => ?_, fun j h => ?_, fun i j hi hj e => ?_⟩
    · rw [cell_of_heap h4]
      have e1 : (cur.toList.take (l.length * 1))[j]? = (l.map (Value.int .u8))[j]? := by rw [h6]
      rw [List.getElem?_take_of_lt (by omega), Array.getElem?_toList] at e1
      rw [e1]
      simp only [List.getElem?_map, List.getElem?_eq_getElem h, Option.map_some, hget j h]
      rw [Int.toNat_of_nonneg (hb j h).1]
    · have := hb j h
      simp only [hget j h]
      omega
    · simp only [hget i hi, hget j hj] at e
      have h8 := hb i hi
      have h9 := hb j hj
      have e' : l[i] = l[j] := by omega
      rcases Nat.lt_trichotomy i j with h | h | h
      · exact absurd e' (List.pairwise_iff_getElem.1 hnd i j hi hj h)
      · exact h
      · exact absurd e'.symm (List.pairwise_iff_getElem.1 hnd j i hj hi h)

theorem entries_all (b k : Nat) (l : List Rec) (w : World) (hk : k ≤ 1000) (hl : l.length = k) (hb0 : b < w.heap.size) (hr : ∀ j (h : j < l.length), RecAt w b (0 + j * 5) l[j]) :
    Calls Ybad.prog 7 #[.slice (some ⟨b, 0, none⟩) k k] w fun e w' => ∃ va vc es, e = .returned (.slice va k vc) ∧ w'.ownsRow w.heap.size 60 6 (.slice va k vc) k (entCells es) ∧ es.map Ent.toRec = l ∧ (∀ e ∈ es, IdAt w' e.blk e.cap e.key ∧ w.heap.size ≤ e.blk) ∧ Below w.heap.size w w' := by
  rcases Nat.eq_zero_or_pos k with h0 | h0
  · subst h0
    obtain rfl : l = [] := List.eq_nil_of_length_eq_zero hl
    exact (entries_none (some ⟨b, 0, none⟩) 0 w).mono fun e w' ⟨h1, h2⟩ => ⟨none, 0, [], h1, ⟨rfl, .inl ⟨rfl, rfl⟩⟩, rfl, fun e h => (by cases h), by rw [h2]; exact Below.refl _ _⟩
  · refine (entries_any b 0 k k l w h0 (by omega) hl hb0 hr).mono fun e w' ⟨v, es, h1, h2, h3, h4, h5⟩ => ?_
    obtain ⟨va, vc, rfl⟩ := sl_shape h2
    exact ⟨va, vc, es, h1, h2, h3, h4, h5⟩

theorem rec_at_own {w X : World} {rb k : Nat} {l : List Rec} (how : w.ownsRow rb 31 5 (.slice (some ⟨rb, 0, none⟩) k k) k (recCells l)) (hX : X.heap[rb]? = w.heap[rb]?) : ∀ t (h : t < l.length), RecAt X rb (0 + t * 5) l[t] := fun t h => by
  have := (recAt_own (R := []) (by rw [List.append_nil]; exact how) t h).of_block hX
  rwa [Nat.zero_add]

/-- The law's state ahead of place. -/
structure NS (w X : World) (kb ab mb cb go gc pb tb bb nb ccb xb rb rrb : Nat) (key : Nat) (aClk m xclk ts tn : Int) (K : Int) (p : Nat) (R : Int) (ping : Bool) (k rl : Nat) (va ra : Option Addr) (vc rc base base2 : Nat) (es er : List Ent) (l lr : List Rec) : Prop where
  bel : Below w.heap.size w X
  low : w.heap.size ≤ cb ∧ w.heap.size ≤ go ∧ w.heap.size ≤ gc ∧ w.heap.size ≤ bb ∧ w.heap.size ≤ tb
  arb : ArbIn X cb go gc mb kb ab 0 m key aClk
  tab : TabAt X tb K (p : Int) R (arbV 16 cb go gc mb kb ab) (onpV ping pb) (k : Int)
  buk : BukAt X bb 0 (.slice va k vc) (.slice ra rl rc)
  own1 : X.ownsRow base 60 6 (.slice va k vc) k (entCells es)
  id1 : ∀ e ∈ es, IdAt X e.blk e.cap e.key
  es1 : es.map Ent.toRec = l
  len1 : l.length = k
  own2 : X.ownsRow base2 60 6 (.slice ra rl rc) rl (entCells er)
  id2 : ∀ e ∈ er, IdAt X e.blk e.cap e.key
  es2 : er.map Ent.toRec = lr
  len2 : lr.length = rl
  rec1 : ∃ cs, X.heap[rb]? = some (.cells cs 31 (0, 0))
  rec1' : ∀ t (h : t < l.length), RecAt X rb (0 + t * 5) l[t]
  rec2 : ∃ cs, X.heap[rrb]? = some (.cells cs 31 (0, 0))
  rec2' : ∀ t (h : t < lr.length), RecAt X rrb (0 + t * 5) lr[t]
  pings : X.heap[pb]? = some (.cells #[.int .i64 0] 3 (0, 0))
  pne : pb ≠ cb
  now : X.heap[nb]? = some (.cells #[.int .u64 tn, .int .i64 ts, .pointer none] 28 (0, 0))
  con : X.heap[ccb]? = some (.cells #[.slice (some ⟨xb, 0, none⟩) 1 1, .int .u64 xclk, .nilIface] 58 (0, 0))
  cne : ccb ≠ go ∧ ccb ≠ gc
  xid : X.heap[xb]? = some (.cells #[.int .u8 (key : Int)] 5 (0, 0))
  bases : w.heap.size ≤ base ∧ base ≤ X.heap.size ∧ w.heap.size ≤ base2 ∧ base2 ≤ X.heap.size
  apart : ∀ g g', (Value.slice va k vc).ownBlock = some g → (Value.slice ra rl rc).ownBlock = some g' → g' ≠ g

end Go.Proofs.YbulkagdqDoor

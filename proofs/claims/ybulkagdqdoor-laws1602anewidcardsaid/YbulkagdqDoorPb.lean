import Derived.Test.YbulkagdqDoorPa
import Derived.Test.YbulkagdqDoorNt
import Derived.Test.YbulkagdqDoorNu
namespace Go.Proofs.YbulkagdqDoor
open Go.RowKit
set_option linter.unusedVariables false
set_option maxRecDepth 100000

/-- The law's state behind place and the outcome's box, the bucket full. -/
structure CS (w Y : World) (kb mb ab pb tb bb nb xb rb rrb : Nat) (key : Nat) (aClk m ts tn : Int) (K : Int) (p : Nat) (R : Int) (arb onp : Value) (k rl g vc base : Nat) (es er : List Ent) (l lr : List Rec) : Prop where
  bel : Below w.heap.size w Y
  kbh : Y.heap[kb]? = some (.cells #[.int .u8 (key : Int)] 5 (0, 0))
  mbh : Y.heap[mb]? = some (.cells #[.int .u8 m] 5 (0, 0))
  abh : Y.heap[ab]? = some (.cells #[.int .u64 aClk] 23 (0, 0))
  pgh : Y.heap[pb]? = some (.cells #[.int .i64 0] 3 (0, 0))
  nbh : Y.heap[nb]? = some (.cells #[.int .u64 tn, .int .i64 ts, .pointer none] 28 (0, 0))
  xbh : Y.heap[xb]? = some (.cells #[.int .u8 (key : Int)] 5 (0, 0))
  tab : TabAt Y tb K (p : Int) R arb onp (k : Int)
  own1 : Y.ownsRow base 60 6 (.slice (some ⟨g, 0, none⟩) k vc) k (entCells es)
  id1 : ∀ e ∈ es, IdAt Y e.blk e.cap e.key
  id2 : ∀ e ∈ er, IdAt Y e.blk e.cap e.key
  rec1 : rb < Y.heap.size ∧ ∀ t (h : t < l.length), RecAt Y rb (0 + t * 5) l[t]
  rec2 : rrb < Y.heap.size ∧ ∀ t (h : t < lr.length), RecAt Y rrb (0 + t * 5) lr[t]

theorem CS.below {w Y Y' : World} {kb mb ab pb tb bb nb xb rb rrb : Nat} {key : Nat} {aClk m ts tn : Int} {K : Int} {p : Nat} {R : Int} {arb onp : Value} {k rl g vc base : Nat} {es er : List Ent} {l lr : List Rec} (h : CS w Y kb mb ab pb tb bb nb xb rb rrb key aClk m ts tn K p R arb onp k rl g vc base es er l lr) (hb : Below Y.heap.size Y Y') :
    CS w Y' kb mb ab pb tb bb nb xb rb rrb key aClk m ts tn K p R arb onp k rl g vc base es er l lr :=
  ⟨h.bel.trans (hb.mono h.bel.size), (hb.block _ (lt_of_heap h.kbh)).trans h.kbh, (hb.block _ (lt_of_heap h.mbh)).trans h.mbh, (hb.block _ (lt_of_heap h.abh)).trans h.abh, (hb.block _ (lt_of_heap h.pgh)).trans h.pgh, (hb.block _ (lt_of_heap h.nbh)).trans h.nbh, (hb.block _ (lt_of_heap h.xbh)).trans h.xbh, h.tab.of_block (hb.block _ h.tab.lt),
    own_of_block h.own1 (hb.block g (low_of h.own1 g rfl)), fun e he => (h.id1 e he).of_block (hb.block _ (h.id1 e he).lt), fun e he => (h.id2 e he).of_block (hb.block _ (h.id2 e he).lt), ⟨Nat.lt_of_lt_of_le h.rec1.1 hb.size, fun t ht => (h.rec1.2 t ht).of_block (hb.block _ h.rec1.1)⟩, ⟨Nat.lt_of_lt_of_le h.rec2.1 hb.size, fun t ht => (h.rec2.2 t ht).of_block (hb.block _ h.rec2.1)⟩⟩

theorem NS.after {w X Y : World} {kb ab mb cb go gc pb tb bb nb ccb xb rb rrb key : Nat} {aClk m xclk ts tn : Int} {K : Int} {p : Nat} {R : Int} {ping : Bool} {k rl : Nat} {ra : Option Addr} {g vc rc base base2 : Nat} {es er : List Ent} {l lr : List Rec} {D : List Nat}
    (h : NS w X kb ab mb cb go gc pb tb bb nb ccb xb rb rrb key aClk m xclk ts tn K p R ping k rl (some ⟨g, 0, none⟩) ra vc rc base base2 es er l lr) (hk : Kp D X Y)
    (hD : ∀ x ∈ D, x = cb ∨ x = go ∨ x = gc ∨ x = bb ∨ (Value.slice ra rl rc).ownBlock = some x) :
    CS w Y kb mb ab pb tb bb nb xb rb rrb key aClk m ts tn K p R (arbV 16 cb go gc mb kb ab) (onpV ping pb) k rl g vc base es er l lr := by
  obtain ⟨bel, low, arb, tab, buk, own1, id1, es1, len1, own2, id2, es2, len2, rec1, rec1', rec2, rec2', pings, pne, now, con, cne, xid, bases, apart⟩ := h
  obtain ⟨q0, ⟨x0, x1, x2, q1⟩, ⟨y0, y1, y2, q2⟩, q3, q4, q5, hne⟩ := arb
  obtain ⟨bcs, hbc⟩ := buk.tag
  have htag : ∀ (q : Nat) (cs : Array Value) (t : TypeId), X.heap[q]? = some (.cells cs t (0, 0)) → t ≠ 3 → t ≠ 58 → t ≠ 56 → t ≠ 60 → q ∉ D := fun q cs t hc h1 h2 h3 h4 hx => by
    rcases hD q hx with e | e | e | e | e
    · exact heap_ne hc q0 h1 e
    · exact heap_ne hc q1 h2 e
    · exact heap_ne hc q2 h2 e
    · exact heap_ne hc hbc h3 e
    · obtain ⟨cs', hc'⟩ := own_tag own2 e
      exact heap_ne hc hc' h4 rfl
  have keep : ∀ (q : Nat) (cs : Array Value) (t : TypeId), X.heap[q]? = some (.cells cs t (0, 0)) → t ≠ 3 → t ≠ 58 → t ≠ 56 → t ≠ 60 → Y.heap[q]? = X.heap[q]? := fun q cs t hc h1 h2 h3 h4 => hk.block q (lt_of_heap hc) (htag q cs t hc h1 h2 h3 h4)
  obtain ⟨rcs, hrc⟩ := rec1
  obtain ⟨rrcs, hrrc⟩ := rec2
  have e1 := keep rb _ _ hrc (by decide) (by decide) (by decide) (by decide)
  have e2 := keep rrb _ _ hrrc (by decide) (by decide) (by decide) (by decide)
  have hpD : pb ∉ D := fun hx => by
    rcases hD pb hx with e | e | e | e | e
    · exact pne e
    · exact heap_ne pings q1 (by decide) e
    · exact heap_ne pings q2 (by decide) e
    · exact heap_ne pings hbc (by decide) e
    · obtain ⟨cs', hc'⟩ := own_tag own2 e
      exact heap_ne pings hc' (by decide) rfl
  obtain ⟨gcs, hgc⟩ := own_heap own1
  have hgD : g ∉ D := fun hx => by
    rcases hD g hx with e | e | e | e | e
    · exact heap_ne hgc q0 (by decide) e
    · exact heap_ne hgc q1 (by decide) e
    · exact heap_ne hgc q2 (by decide) e
    · exact heap_ne hgc hbc (by decide) e
    · exact apart g g rfl e rfl
  refine ⟨bel.trans (hk.below bel.size (fun x hx => ?_)), (keep kb _ _ q4 (by decide) (by decide) (by decide) (by decide)).trans q4, (keep mb _ _ q3 (by decide) (by decide) (by decide) (by decide)).trans q3, (keep ab _ _ q5 (by decide) (by decide) (by decide) (by decide)).trans q5, (hk.block pb (lt_of_heap pings) hpD).trans pings, (keep nb _ _ now (by decide) (by decide) (by decide) (by decide)).trans now, (keep xb _ _ xid (by decide) (by decide) (by decide) (by decide)).trans xid, ?_, own_of_block own1 (hk.block g (lt_of_heap hgc) hgD), fun e he => ?_, fun e he => ?_, ⟨lt_of_heap (e1.trans hrc), fun t ht => (rec1' t ht).of_block e1⟩, ⟨lt_of_heap (e2.trans hrrc), fun t ht => (rec2' t ht).of_block e2⟩⟩
  · rcases hD x hx with e | e | e | e | e
    · omega
    · omega
    · omega
    · omega
    · have := own_ge own2 x e
      omega
  · obtain ⟨tcs, htc⟩ := tab.tag
    exact tab.of_block (keep tb _ _ htc (by decide) (by decide) (by decide) (by decide))
  · obtain ⟨cs, hc, _⟩ := (id1 e he).at_
    exact (id1 e he).of_block (keep _ cs 5 hc (by decide) (by decide) (by decide) (by decide))
  · obtain ⟨cs, hc, _⟩ := (id2 e he).at_
    exact (id2 e he).of_block (keep _ cs 5 hc (by decide) (by decide) (by decide) (by decide))

end Go.Proofs.YbulkagdqDoor

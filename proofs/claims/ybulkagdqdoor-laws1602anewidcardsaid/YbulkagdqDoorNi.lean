import Derived.Test.YbulkagdqDoorNh
namespace Go.Proofs.YbulkagdqDoor
open Go.RowKit
set_option linter.unusedVariables false
set_option maxRecDepth 100000

theorem ConsAt.of_heap {w w' : World} {g : Nat} {l : List Ent} (h : ConsAt w g l) (hg : w'.heap[g]? = w.heap[g]?) (hs : w.heap.size ≤ w'.heap.size) (hi : ∀ e ∈ l, w'.heap[e.blk]? = w.heap[e.blk]?) : ConsAt w' g l := by
  refine ⟨Nat.lt_of_lt_of_le h.1 hs, fun j hj => ?_⟩
  obtain ⟨h1, h2, h3, h4⟩ := h.2 j hj
  have f : ∀ o, w'.cell? ⟨g, o, none⟩ = w.cell? ⟨g, o, none⟩ := fun o => World.cell?_of_block (w := w) (a := ⟨g, o, none⟩) hg
  exact ⟨(f _).trans h1, (f _).trans h2, (f _).trans h3, h4.of_block (hi _ (List.getElem_mem hj))⟩
theorem con_own {w : World} {base g m : Nat} {l : List Ent} (h : w.ownsRow base 58 3 (.slice (some ⟨g, 0, none⟩) m m) m (conCells l)) (hi : ∀ e ∈ l, IdAt w e.blk e.cap e.key) : ConsAt w g l := by
  obtain ⟨cs, hc⟩ := own_heap h
  have hl := h.1
  rw [conCells_length] at hl
  refine ⟨lt_of_heap hc, fun j hj => ?_⟩
  have f : ∀ t, t < 3 → w.cell? ⟨g, j * 3 + t, none⟩ = (l[j].con)[t]? := fun t ht => by rw [h.cellAt (j * 3 + t) (by omega)]; exact conCells_get l j t hj ht
  exact ⟨f 0 (by omega), f 1 (by omega), f 2 (by omega), hi _ (List.getElem_mem hj)⟩

/-- The hook that the law may set. -/
def onpV (ping : Bool) (pb : Nat) : Value := if ping then .func (.func 17) #[] #[.pointer (some ⟨pb, 0, none⟩)] else .nilFunc
/-- What a refusal bears: nothing, or the first m contacts, in a row of tag 58. -/
def OldAt (w : World) (ping : Bool) (m : Nat) (es : List Ent) (ov : Value) : Prop :=
  if ping then ∃ g cs, ov = .slice (some ⟨g, 0, none⟩) m m ∧ w.heap[g]? = some (.cells cs 58 (0, 0)) ∧ ConsAt w g (es.take m) else ov = .slice none 0 0
theorem OldAt.of_heap {w w' : World} {ping : Bool} {m : Nat} {es : List Ent} {ov : Value} (h : OldAt w ping m es ov) (hs : w.heap.size ≤ w'.heap.size) (hk : ∀ (k : Nat) (cs : Array Value) (t : TypeId), w.heap[k]? = some (Obj.cells cs t (0, 0)) → t = 58 ∨ t = 5 → w'.heap[k]? = w.heap[k]?) (hi : ∀ e ∈ es, IdAt w e.blk e.cap e.key) : OldAt w' ping m es ov := by
  unfold OldAt at h ⊢
  cases ping with
  | false => exact h
  | true =>
    obtain ⟨g, cs, h1, h2, h3⟩ := h
    exact ⟨g, cs, h1, (hk g cs 58 h2 (.inl rfl)).trans h2, h3.of_heap (hk g cs 58 h2 (.inl rfl)) hs (fun e he => by
      obtain ⟨cs', hc, _⟩ := (hi e (List.mem_of_mem_take he)).at_
      exact hk _ cs' 5 hc (.inr rfl))⟩

theorem ents_own {w : World} {base g n cap : Nat} {es : List Ent} (how : w.ownsRow base 60 6 (.slice (some ⟨g, 0, none⟩) n cap) n (entCells es)) (hid : ∀ e ∈ es, IdAt w e.blk e.cap e.key) : EntsAt w (some ⟨g, 0, none⟩) es := fun h => by
  obtain ⟨cs, hc⟩ := own_heap how
  refine ⟨g, 0, rfl, lt_of_heap hc, fun j hj => ⟨?_, hid _ (List.getElem_mem hj)⟩⟩
  rw [Nat.zero_add]
  exact entAt_own (R := []) (by rw [List.append_nil]; exact how) j hj

theorem refusal_any (ping : Bool) (pb tb bb : Nat) (K : Int) (p : Nat) (R : Int) (arb : Value) (cnt chg : Int) (g n cap base : Nat) (rep : Value) (es : List Ent) (w : World) (hT : TabAt w tb K (p : Int) R arb (onpV ping pb) cnt) (hB : BukAt w bb chg (.slice (some ⟨g, 0, none⟩) n cap) rep) (hl : es.length = n) (hn2 : n ≤ 1000) (hp : p ≤ 100)
    (how : w.ownsRow base 60 6 (.slice (some ⟨g, 0, none⟩) n cap) n (entCells es)) (hid : ∀ e ∈ es, IdAt w e.blk e.cap e.key) :
    Calls Ybad.prog 28 #[.pointer (some ⟨tb, 0, none⟩), .pointer (some ⟨bb, 0, none⟩)] w fun e w' => ∃ ov, e = .returned (outOld ov) ∧ OldAt w' ping (min p n) es ov ∧ Below w.heap.size w w' := by
  cases ping with
  | false => exact (refusal_none tb bb K p R arb cnt w hT).mono fun e w' ⟨h1, h2⟩ => ⟨_, h1, rfl, h2⟩
  | true =>
    refine (refusal_some tb bb K p R arb _ _ _ cnt chg g n cap rep es w hT hB hl (by omega) hp (own_spare how).1 (ents_own how hid)).mono fun e w' ⟨g', h1, h2, h3⟩ => ?_
    obtain ⟨cs, hc⟩ := own_heap h2
    exact ⟨_, h1, ⟨g', cs, rfl, hc, con_own h2 (fun e he => (hid e (List.mem_of_mem_take he)).of_block (h3.block _ (hid e (List.mem_of_mem_take he)).lt))⟩, h3⟩

theorem rcheck_any (ping : Bool) (p n c' : Nat) (a' : Option Addr) (ov : Value) (es : List Ent) (l : List Rec) (w : World) (hn2 : n ≤ 1024) (hl : l.length = n) (hel : es.map Ent.toRec = l) (hc : OldAt w ping (min p n) es ov) (hr : RecsAt w a' l) :
    Calls Ybad.prog 18 #[outOld ov, .bool ping, .int .i64 (p : Int), .slice a' n c'] w fun e w' => e = .returned (.bool true) ∧ Below w.heap.size w w' := by
  cases ping with
  | false =>
    obtain rfl : ov = .slice none 0 0 := hc
    exact rcheck_no _ _ w
  | true =>
    obtain ⟨g, cs, rfl, _, h3⟩ := hc
    exact rcheck_yes p n (min p n) g c' a' es l w rfl hn2 hl hel h3 hr

end Go.Proofs.YbulkagdqDoor

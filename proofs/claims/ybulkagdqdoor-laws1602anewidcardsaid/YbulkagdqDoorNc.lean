import Derived.Test.YbulkagdqDoorT9
import Derived.Deep.DeepCutAuto
namespace Go.Proofs.YbulkagdqDoor
open Go.RowKit
set_option linter.unusedVariables false
set_option maxRecDepth 100000

theorem entries_none (a : Option Addr) (c : Nat) (w : World) : Calls Ybad.prog 7 #[.slice a 0 c] w fun e w' => e = .returned (.slice none 0 0) ∧ w' = w := by
  go_enter Ybad.func7, Ybad.ntmps7
  go_wp2
  go_ret
  exact ⟨rfl, rfl⟩

/-- The closure of indexOf: is the entry's id the one asked for? -/
theorem asks35 (e : Ent) (idb kb kc key : Nat) (w : World) (hk : key < 256) (hek : e.key < 256) (hid : IdAt w e.blk e.cap e.key) (hb : w.heap[idb]? = some (.cells #[.slice (some ⟨kb, 0, none⟩) 1 kc] 22 (0, 0))) (hkey : w.cell? ⟨kb, 0, none⟩ = some (.int .u8 key)) :
    Calls Ybad.prog 35 #[.agg #[.slice (some ⟨e.blk, 0, none⟩) 1 e.cap, .int .u64 e.clk, .nilIface, .int .u64 e.n, .int .i64 e.s, .pointer none], .pointer (some ⟨idb, 0, none⟩)] w fun r w' => r = .returned (.bool (e.key == key)) ∧ Below w.heap.size w w' := by
  have l1 := lt_of_heap hb
  have l2 := lt_of_cell hkey
  have l3 := hid.lt
  have c1 : w.cell? ⟨idb, 0, none⟩ = some (.slice (some ⟨kb, 0, none⟩) 1 kc) := (cell_of_heap hb 0).trans rfl
  have hi := hid.cell
  have HB := hide ((Below.refl w.heap.size w).alloc (Nat.le_refl _) (.cells #[.slice (some ⟨e.blk, 0, none⟩) 1 e.cap, .int .u64 e.clk, .nilIface, .int .u64 e.n, .int .i64 e.s, .pointer none] 60))
  have Q := beq11 e.blk e.cap kb kc e.key key (w.alloc (.cells #[.slice (some ⟨e.blk, 0, none⟩) 1 e.cap, .int .u64 e.clk, .nilIface, .int .u64 e.n, .int .i64 e.s, .pointer none] 60)) hek hk ((World.cell?_alloc_past _ _ _ l3).trans hi) ((World.cell?_alloc_past _ _ _ l2).trans hkey)
  have HQ := hide Q
  clear Q hid hkey hi
  go_enter Ybad.func35, Ybad.ntmps35
  go_wp2_with (go_at_call 11; refine HQ.out.mono ?_; rintro r w' ⟨rfl, rfl⟩)
  go_ret
  exact ⟨rfl, HB.out⟩

/-- What indexOf answers. -/
def IdxIs (es : List Ent) (key : Nat) (r : Int) : Prop := (r = -1 ∧ ∀ t (h : t < es.length), es[t].key ≠ key) ∨ ∃ (i : Nat) (h : i < es.length), r = (i : Int) ∧ es[i].key = key ∧ ∀ t (h' : t < i), es[t].key ≠ key

set_option maxHeartbeats 1000000 in
theorem index34 (a : Option Addr) (n c idb kb kc key : Nat) (es : List Ent) (w : World) (hn2 : n ≤ 2000) (hl : es.length = n) (hk : key < 256) (hek : ∀ e ∈ es, e.key < 256) (he : EntsAt w a es) (hb : w.heap[idb]? = some (.cells #[.slice (some ⟨kb, 0, none⟩) 1 kc] 22 (0, 0))) (hkey : w.cell? ⟨kb, 0, none⟩ = some (.int .u8 key)) :
    Calls Ybad.prog 34 #[.slice a n c, .func (.func 35) #[] #[.pointer (some ⟨idb, 0, none⟩)]] w fun e w' => ∃ r, e = .returned (.int .i64 r) ∧ IdxIs es key r ∧ Below w.heap.size w w' := by
  have l1 := lt_of_heap hb
  have l2 := lt_of_cell hkey
  go_enter Ybad.func34, Ybad.ntmps34
  go_wp2
  go_loopw [8] (fun i wr => ∃ (k : Nat), k ≤ n ∧ i = .int .i64 k ∧ (∀ t (h : t < es.length), t < k → es[t].key ≠ key) ∧ Below w.heap.size w wr) (fun i _ => n - (intOf i).toNat)
  case atStart => exact ⟨0, Nat.zero_le _, rfl, fun t h h' => absurd h' (by omega), Below.refl _ _⟩
  case round =>
    obtain ⟨k, hkn, rfl, hno, hbl⟩ := hrel
    by_cases hlt : k < n
    · obtain ⟨b, off, rfl, hbb, hec⟩ := he (by omega)
      obtain ⟨q, qid⟩ := hec k (by omega)
      have q' := q.of_block (hbl.block b hbb)
      have qid' := qid.of_block (hbl.block _ qid.lt)
      have hb' := (hbl.block idb l1).trans hb
      have hkey' : wr.cell? ⟨kb, 0, none⟩ = some (.int .u8 key) := (World.cell?_of_block (w := w) (a := ⟨kb, 0, none⟩) (hbl.block kb l2)).trans hkey
      have hekk := hek _ (List.getElem_mem (show k < es.length by omega))
      have HNo := hide hno
      have HBl := hide hbl
      obtain ⟨ek, hee⟩ : ∃ e, es[k] = e := ⟨_, rfl⟩
      have Heq := hide hee
      rw [hee] at q' qid' hekk
      have HQ := hide (asks35 ek idb kb kc key wr hk hekk qid' hb' hkey')
      obtain ⟨c0, c1, c2, c3, c4, c5⟩ := q'
      have hlt' : (k : Int) < (n : Int) := by omega
      clear hno hbl hec he q qid hb hkey hb' hkey' qid' hee hek
      by_cases hq : ek.key = key
      · have hqb : (ek.key == key) = true := by simp [hq]
        rw [hqb] at HQ
        go_wp2_with (go_at_call 35; refine HQ.out.mono ?_; rintro r w' ⟨rfl, hw⟩; have HW := hide hw; clear hw)
        go_ret
        refine ⟨_, rfl, .inr ⟨k, by omega, rfl, by rw [Heq.out]; exact hq, fun t ht => HNo.out t (by omega) ht⟩, ?_⟩
        exact HBl.out.trans ⟨HW.out.os, HW.out.tape, HW.out.output, HW.out.size, fun k hk => HW.out.block k (by have := HBl.out.size; omega)⟩
      · have hqb : (ek.key == key) = false := by simp [hq]
        rw [hqb] at HQ
        go_wp2_with (go_at_call 35; refine HQ.out.mono ?_; rintro r w' ⟨rfl, hw⟩; have HW := hide hw; clear hw)
        go_roundw
        case rel =>
          refine ⟨k + 1, by omega, by simp, fun t ht htk => ?_, HBl.out.trans ⟨HW.out.os, HW.out.tape, HW.out.output, HW.out.size, fun k hk => HW.out.block k (by have := HBl.out.size; omega)⟩⟩
          by_cases e : t = k
          · subst e; rw [Heq.out]; exact hq
          · exact HNo.out t ht (by omega)
        case measure => simp [intOf]; omega
    · have e : k = n := by omega
      subst e
      go_wp2
      go_ret
      exact ⟨_, rfl, .inl ⟨rfl, fun t h => hno t h (by omega)⟩, hbl⟩

theorem index27 (a : Option Addr) (n c kb kc key : Nat) (es : List Ent) (w : World) (hn2 : n ≤ 2000) (hl : es.length = n) (hk : key < 256) (hek : ∀ e ∈ es, e.key < 256) (he : EntsAt w a es) (hkey : w.cell? ⟨kb, 0, none⟩ = some (.int .u8 key)) :
    Calls Ybad.prog 27 #[.slice a n c, .slice (some ⟨kb, 0, none⟩) 1 kc] w fun e w' => ∃ r, e = .returned (.int .i64 r) ∧ IdxIs es key r ∧ Below w.heap.size w w' := by
  have hb0 := (Below.refl w.heap.size w).alloc (Nat.le_refl _) (.cells #[.slice (some ⟨kb, 0, none⟩) 1 kc] 22)
  have HQ := hide (index34 a n c w.heap.size kb kc key es (w.alloc (.cells #[.slice (some ⟨kb, 0, none⟩) 1 kc] 22)) hn2 hl hk hek (fun h => by
    obtain ⟨b, off, h1, h2, h3⟩ := he h
    exact ⟨b, off, h1, by simp; omega, fun j hj => ⟨(h3 j hj).1.of_block (hb0.block b h2), (h3 j hj).2.of_block (hb0.block _ (h3 j hj).2.lt)⟩⟩) (heap_alloc_new' _ _) ((World.cell?_alloc_past _ _ _ (lt_of_cell hkey)).trans hkey))
  have HB := hide hb0
  clear he hb0
  go_enter Ybad.func27, Ybad.ntmps27
  go_wp2_with (go_at_call 34; refine HQ.out.mono ?_; rintro r w' ⟨x, rfl, hx, hw⟩; have HW := hide (And.intro hx hw); clear hx hw)
  go_ret
  exact ⟨_, rfl, HW.out.1, HB.out.trans ⟨HW.out.2.os, HW.out.2.tape, HW.out.2.output, HW.out.2.size, fun k hk => HW.out.2.block k (by simp; omega)⟩⟩

end Go.Proofs.YbulkagdqDoor

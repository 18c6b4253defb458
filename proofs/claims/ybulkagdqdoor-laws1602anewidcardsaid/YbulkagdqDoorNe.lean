import Derived.Test.YbulkagdqDoorNd
import Derived.Test.YbulkagdqDoorVe
import Derived.Deep.RegionHeld3
namespace Go.Proofs.YbulkagdqDoor
open Go.RowKit
set_option linter.unusedVariables false
set_option maxRecDepth 100000

def outOld (v : Value) : Value := .agg #[.slice none 0 0, .int .u64 0, .nilIface, .bool false, .bool false, .slice none 0 0, .int .u64 0, .nilIface, v]

theorem eqf_nil (w : World) : (binOp .eql 66 .nilFunc .nilFunc).run Ybad.prog w = .ok (.bool true) w := by kernel_rfl
theorem eqf_some (f : Fn) (xs ys : Array Value) (w : World) : (binOp .eql 66 (.func f xs ys) .nilFunc).run Ybad.prog w = .ok (.bool false) w := by kernel_rfl

theorem refusal_none (tb bb : Nat) (K P R : Int) (arb : Value) (cnt : Int) (w : World) (hT : TabAt w tb K P R arb .nilFunc cnt) :
    Calls Ybad.prog 28 #[.pointer (some ⟨tb, 0, none⟩), .pointer (some ⟨bb, 0, none⟩)] w fun e w' => e = .returned (outOld (.slice none 0 0)) ∧ Below w.heap.size w w' := by
  obtain ⟨cs, ht, t1, t2, t3, t4, t5, t6⟩ := hT.at_
  have g := (cell_of_heap ht 10).trans t5
  have ltb := lt_of_heap ht
  have ne : tb ≠ w.heap.size := by omega
  clear ht t1 t2 t3 t4 t5 t6 hT
  have k1 := eqf_nil
  go_enter Ybad.func28, Ybad.ntmps28
  go_wp2
  refine bodyPost_ret (v := outOld (.slice none 0 0)) (by simp [results, Ybad.results28, go_sem, outOld]) rfl ⟨rfl, (Below.refl _ _).alloc (Nat.le_refl _) _⟩

abbrev out9 (v : Value) : List Value := [.slice none 0 0, .int .u64 0, .nilIface, .bool false, .bool false, .slice none 0 0, .int .u64 0, .nilIface, v]
theorem own_of_blockN {w w' : World} {base : Nat} {e : TypeId} {size g n cap : Nat} {xs : List Value} (h : w.ownsRow base e size (.slice (some ⟨g, 0, none⟩) n cap) n xs) (hb : w'.heap[g]? = w.heap[g]?) : w'.ownsRow base e size (.slice (some ⟨g, 0, none⟩) n cap) n xs := own_of_block h hb
/-- contactsOf within refusal: what stands behind the store of the outcome. -/
theorem con_in (g m cap : Nat) (es : List Ent) (w : World) (hl : es.length = m) (hn2 : m ≤ 1024) (he : EntsAt w (some ⟨g, 0, none⟩) es) :
    Calls Ybad.prog 36 #[.slice (some ⟨g, 0, none⟩) m cap] (w.alloc (.cells (out9 (.slice none 0 0)).toArray 75)).drew fun e w1 => e = .returned (.slice (some ⟨w.heap.size + 1, 0, none⟩) m m) ∧ w1.heap[w.heap.size]? = some (.cells (out9 (.slice none 0 0)).toArray 75 (0, 0)) ∧ w.heap.size < w1.heap.size ∧ (∀ k, k < w.heap.size → w1.heap[k]? = w.heap[k]?) ∧
      (∀ i, (w1.setCells w.heap.size 0 (out9 (.slice (some ⟨w.heap.size + 1, 0, none⟩) m m))).cell? ⟨w.heap.size, i, none⟩ = (out9 (.slice (some ⟨w.heap.size + 1, 0, none⟩) m m))[i]?) ∧ (w1.setCells w.heap.size 0 (out9 (.slice (some ⟨w.heap.size + 1, 0, none⟩) m m))).ownsRow w.heap.size 58 3 (.slice (some ⟨w.heap.size + 1, 0, none⟩) m m) m (conCells es) ∧ Below w.heap.size w (w1.setCells w.heap.size 0 (out9 (.slice (some ⟨w.heap.size + 1, 0, none⟩) m m))) := by
  have hb0 : Below w.heap.size w (w.alloc (.cells (out9 (.slice none 0 0)).toArray 75)).drew := ((Below.refl w.heap.size w).alloc (Nat.le_refl _) _).drew
  have hsz : (w.alloc (.cells (out9 (.slice none 0 0)).toArray 75)).drew.heap.size = w.heap.size + 1 := by show (w.alloc _).heap.size = _; simp
  refine (contacts36 (some ⟨g, 0, none⟩) m cap es _ hn2 hl (fun h => by
    obtain ⟨b, off, h1, h2, h3⟩ := he h
    exact ⟨b, off, h1, by rw [hsz]; omega, fun j hj => ⟨(h3 j hj).1.of_block (hb0.block b h2), (h3 j hj).2.of_block (hb0.block _ (h3 j hj).2.lt)⟩⟩)).mono fun e w1 ⟨h1, h2, h3⟩ => ?_
  rw [hsz] at h1 h2 h3
  have hz : w1.heap[w.heap.size]? = some (.cells (out9 (.slice none 0 0)).toArray 75 (0, 0)) := (h3.block _ (by omega)).trans (heap_alloc_new' w _)
  have hk : Kp [w.heap.size] w1 (w1.setCells w.heap.size 0 (out9 (.slice (some ⟨w.heap.size + 1, 0, none⟩) m m))) := Kp.setCells (by simp) _ _ (Kp.refl _ _)
  obtain ⟨cs, hcs⟩ := own_heap h2
  have h9 := heap_setAll (out9 (.slice (some ⟨w.heap.size + 1, 0, none⟩) m m)) hz rfl
  have hl1 := h3.size
  rw [hsz] at hl1
  refine ⟨h1, hz, lt_of_heap hz, fun k hk' => (h3.block k (by omega)).trans (hb0.block k hk'), fun i => ?_, own_of_blockN (own_weak h2 (by omega)) (hk.block _ (lt_of_heap hcs) (by simp)), ?_⟩
  · rw [cell_of_heap h9]; simp
  · exact hb0.trans ⟨hk.os.trans h3.os, hk.tape.trans h3.tape, hk.output.trans h3.output, Nat.le_trans h3.size hk.size, fun k hk' => (hk.block k (by omega) (by simp; omega)).trans (h3.block k (by omega))⟩

set_option maxHeartbeats 1000000 in
theorem refusal_some (tb bb : Nat) (K : Int) (p : Nat) (R : Int) (arb : Value) (f : Fn) (xs ys : Array Value) (cnt chg : Int) (g n cap : Nat) (rep : Value) (es : List Ent) (w : World) (hT : TabAt w tb K (p : Int) R arb (.func f xs ys) cnt) (hB : BukAt w bb chg (.slice (some ⟨g, 0, none⟩) n cap) rep) (hl : es.length = n) (hn2 : n ≤ 1024) (hp : p ≤ 100) (hnc : n ≤ cap)
    (he : EntsAt w (some ⟨g, 0, none⟩) es) :
    Calls Ybad.prog 28 #[.pointer (some ⟨tb, 0, none⟩), .pointer (some ⟨bb, 0, none⟩)] w fun e w' => ∃ g', e = .returned (outOld (.slice (some ⟨g', 0, none⟩) (min p n) (min p n))) ∧ w'.ownsRow w.heap.size 58 3 (.slice (some ⟨g', 0, none⟩) (min p n) (min p n)) (min p n) (conCells (es.take (min p n))) ∧ Below w.heap.size w w' := by
  obtain ⟨cs, ht, t1, t2, t3, t4, t5, t6⟩ := hT.at_
  have g10 := (cell_of_heap ht 10).trans t5
  have g2 := (cell_of_heap ht 2).trans t2
  have ltb := lt_of_heap ht
  obtain ⟨bs, hb1, hb2, hb3, hb4⟩ := hB.at_
  have q1 := (cell_of_heap hb1 9).trans hb3
  have lb := lt_of_heap hb1
  have ne : tb ≠ w.heap.size := by omega
  clear ht t1 t2 t3 t4 t5 t6 hT hb1 hb2 hb3 hb4 hB
  have k1 := eqf_some f xs ys
  go_enter Ybad.func28, Ybad.ntmps28
  obtain ⟨nb1, nb2, nt2⟩ : bb ≠ w.heap.size ∧ w.heap.size ≠ bb ∧ w.heap.size ≠ tb := by omega
  have lb' : bb < w.heap.size + 1 := by omega
  have ltb' : tb < w.heap.size + 1 := by omega
  by_cases hpn : p ≤ n
  · rw [Nat.min_eq_left hpn]
    have hmin : ¬ (n : Int) < (p : Int) := by omega
    have hmc : (p : Int) ≤ (cap : Int) := by omega
    have HQ := hide (con_in g p cap (es.take p) w (by simp; omega) (by omega) (fun h => by
      obtain ⟨b, off, h1, h2, h3⟩ := he (by simp at h; omega)
      refine ⟨b, off, h1, h2, fun j hj => ?_⟩
      have hj' : j < es.length := by simp at hj; omega
      rw [List.getElem_take]
      exact h3 j hj'))
    clear he
    go_upto_region 3 with fail
    go_region_held3 (fun x => x.cell? ⟨bb, 9, none⟩ = some (.slice (some ⟨g, 0, none⟩) n cap) ∧ x.cell? ⟨tb, 2, none⟩ = some (.int .i64 (p : Int))) (go_keep) ((go_at_call 36; refine HQ.out.mono ?_; rintro e w1 ⟨rfl, hz, hsz, hkp, f8, f9, f10⟩; have v1 := (World.cell?_of_block (w := w) (a := ⟨bb, 9, none⟩) (hkp bb lb)).trans q1; have v2 := (World.cell?_of_block (w := w) (a := ⟨tb, 2, none⟩) (hkp tb ltb)).trans g2; have y := cell_of_heap hz; have yf := free_of_heap hz; simp only [World.setCells, Nat.zero_add, Nat.reduceAdd, out9] at f8 f9 f10; have HF := hide (And.intro f8 (And.intro f9 f10)); clear f8 f9 f10 hz))
    go_wp2
    refine bodyPost_ret (v := outOld (.slice (some ⟨w.heap.size + 1, 0, none⟩) p p)) (by have f8 := HF.out.1; simp [results, Ybad.results28, go_sem, outOld, f8]) rfl ⟨_, rfl, HF.out.2.1, HF.out.2.2⟩
  · rw [Nat.min_eq_right (by omega)]
    have hmin : (n : Int) < (p : Int) := by omega
    have hmc : (n : Int) ≤ (cap : Int) := by omega
    have HQ := hide (con_in g n cap (es.take n) w (by simp; omega) (by omega) (fun h => by
      obtain ⟨b, off, h1, h2, h3⟩ := he (by simp at h; omega)
      refine ⟨b, off, h1, h2, fun j hj => ?_⟩
      have hj' : j < es.length := by simp at hj; omega
      rw [List.getElem_take]
      exact h3 j hj'))
    clear he
    go_upto_region 3 with fail
    go_region_held3 (fun x => x.cell? ⟨bb, 9, none⟩ = some (.slice (some ⟨g, 0, none⟩) n cap) ∧ x.cell? ⟨tb, 2, none⟩ = some (.int .i64 (p : Int))) (go_keep) ((go_at_call 36; refine HQ.out.mono ?_; rintro e w1 ⟨rfl, hz, hsz, hkp, f8, f9, f10⟩; have v1 := (World.cell?_of_block (w := w) (a := ⟨bb, 9, none⟩) (hkp bb lb)).trans q1; have v2 := (World.cell?_of_block (w := w) (a := ⟨tb, 2, none⟩) (hkp tb ltb)).trans g2; have y := cell_of_heap hz; have yf := free_of_heap hz; simp only [World.setCells, Nat.zero_add, Nat.reduceAdd, out9] at f8 f9 f10; have HF := hide (And.intro f8 (And.intro f9 f10)); clear f8 f9 f10 hz))
    go_wp2
    refine bodyPost_ret (v := outOld (.slice (some ⟨w.heap.size + 1, 0, none⟩) n n)) (by have f8 := HF.out.1; simp [results, Ybad.results28, go_sem, outOld, f8]) rfl ⟨_, rfl, HF.out.2.1, HF.out.2.2⟩

end Go.Proofs.YbulkagdqDoor

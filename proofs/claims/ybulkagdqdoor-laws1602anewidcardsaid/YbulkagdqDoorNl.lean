import Derived.Test.YbulkagdqDoorNk
namespace Go.Proofs.YbulkagdqDoor
open Go.RowKit
set_option linter.unusedVariables false
set_option maxRecDepth 100000

theorem OldAt.shape {w : World} {ping : Bool} {m : Nat} {es : List Ent} {ov : Value} (h : OldAt w ping m es ov) : ∃ a l c, ov = .slice a l c := by
  unfold OldAt at h
  cases ping with
  | false => exact ⟨_, _, _, h⟩
  | true =>
    obtain ⟨g, cs, h1, _⟩ := h
    exact ⟨_, _, _, h1⟩
/-- Behind the store of the outcome. -/
theorem out_end {Z : World} {s ib ic : Nat} {clk ts tn : Int} {ping : Bool} {m : Nat} {es : List Ent} {ov : Value} (hP : PlAt Z s ib ic clk ts tn) (ho : OldAt Z ping m es ov) (hi : ∀ e ∈ es, IdAt Z e.blk e.cap e.key) :
    (∀ i, (Z.setCells (s + 1 + 1) 0 (out9 ov)).cell? ⟨s + 1 + 1, i, none⟩ = (out9 ov)[i]?) ∧ Kp [s + 1 + 1] Z (Z.setCells (s + 1 + 1) 0 (out9 ov)) ∧ OldAt (Z.setCells (s + 1 + 1) 0 (out9 ov)) ping m es ov := by
  have hk : Kp [s + 1 + 1] Z (Z.setCells (s + 1 + 1) 0 (out9 ov)) := Kp.setCells (by simp) _ _ (Kp.refl _ _)
  have h9 := heap_setAll (out9 ov) hP.po rfl
  refine ⟨fun i => by rw [cell_of_heap h9]; simp, hk, ho.of_heap hk.size (fun k cs t h ht => ?_) hi⟩
  refine hk.block k (lt_of_heap h) ?_
  have := heap_ne h hP.po (by rcases ht with rfl | rfl <;> decide)
  simpa using this

set_option maxHeartbeats 4000000 in
theorem placeR0 (tb bb : Nat) (K : Int) (p : Nat) (R : Int) (cnt chg : Int) (ping : Bool) (pb : Nat) (xb xc key : Nat) (xclk s n : Int) (g len cap base : Nat) (es : List Ent) (w : World) (arb rep : Value)
    (hT : TabAt w tb K (p : Int) R arb (onpV ping pb) cnt) (hB : BukAt w bb chg (.slice (some ⟨g, 0, none⟩) len cap) rep) (how : w.ownsRow base 60 6 (.slice (some ⟨g, 0, none⟩) len cap) len (entCells es)) (hids : ∀ e ∈ es, IdAt w e.blk e.cap e.key) (hel : es.length = len) (hlK : ¬ (len : Int) < K) (hl : len ≤ 1000) (hp : p ≤ 100) (hid : IdAt w xb xc key) (hR : R = 0) :
    Calls Ybad.prog 10 #[.pointer (some ⟨tb, 0, none⟩), .pointer (some ⟨bb, 0, none⟩), .int .i64 (-1), conV xb xc xclk, tmV s n] w fun e w' => ∃ ov, e = .returned (.tuple #[outOld ov, .nilIface]) ∧ OldAt w' ping (min p len) es ov ∧ Kp [] w w' := by
  obtain ⟨z0, z1, z2, hb0, hS1⟩ := place_three w (.cells #[.slice (some ⟨xb, 0, none⟩) 1 xc, .int .u64 xclk, .nilIface] 58) (.cells #[.int .u64 n, .int .i64 s, .pointer none] 28) (.cells #[.slice none 0 0, .int .u64 0, .nilIface, .bool false, .bool false, .slice none 0 0, .int .u64 0, .nilIface, .slice none 0 0] 75)
  have ltb := hT.lt
  have lbb := hB.lt
  go_enter Ybad.func10, Ybad.ntmps10
  unfold conV tmV
  go_upto_region 12 with fail
  generalize ((w.alloc (.cells #[.slice (some ⟨xb, 0, none⟩) 1 xc, .int .u64 xclk, .nilIface] 58)).alloc (.cells #[.int .u64 n, .int .i64 s, .pointer none] 28)).alloc (.cells #[.slice none 0 0, .int .u64 0, .nilIface, .bool false, .bool false, .slice none 0 0, .int .u64 0, .nilIface, .slice none 0 0] 75) = X1 at z0 z1 z2 hb0 hS1 ⊢
  have hT1 := hT.of_block (hb0.block _ ltb)
  have hB1 := hB.of_block (hb0.block _ lbb)
  obtain ⟨cs, ht, t1, t2, t3, t4, t5, t6⟩ := hT1.at_
  obtain ⟨bs, hbb, u1, u2, u3⟩ := hB1.at_
  have cK := (cell_of_heap ht 1).trans t1
  have c9 := (cell_of_heap hbb 9).trans u2
  go_quiet (fail)
  have hK2 : Kp [] w (X1.drewN nq) := (Kp.nil.2 hb0).drewN nq
  have hP2 : PlAt (X1.drewN nq) w.heap.size xb xc xclk s n := ⟨z0, z1, z2⟩
  have hT2 := hT1.of_block (w' := X1.drewN nq) rfl
  have hB2 := hB1.of_block (w' := X1.drewN nq) rfl
  have hS2 : (X1.drewN nq).heap.size = w.heap.size + 1 + 1 + 1 := hS1
  have cR : (X1.drewN nq).cell? ⟨tb, 4, none⟩ = some (.int .i64 R) := (cell_of_heap ht 4).trans t3
  clear hT1 hB1 ht t1 t2 t3 t4 t5 t6 hbb u1 u2 u3 cK c9 z0 z1 z2 hb0 hS1
  go_upto_region 17 with fail
  generalize X1.drewN nq = X2 at hK2 hP2 hT2 hB2 hS2 cR ⊢
  have hR0 : ¬ (0 : Int) < R := by omega
  go_upto_region 33 with fail
  have hTz := hT2
  have hBz := hB2
  have howz : X2.ownsRow base 60 6 (.slice (some ⟨g, 0, none⟩) len cap) len (entCells es) := own_block_of how (fun k hk => by
    obtain ⟨cs, hc⟩ := own_tag how hk
    exact hK2.block k (lt_of_heap hc) (by simp))
  have hidz : ∀ e ∈ es, IdAt X2 e.blk e.cap e.key := fun e he => (hids e he).of_block (hK2.block _ (hids e he).lt (by simp))
  have hPz := hP2
  have hKz := hK2
  have RC := hide (refusal_any ping pb tb bb K p R _ cnt chg g len cap base rep es X2 hTz hBz hel (by omega) hp howz hidz)
  go_wp2_with fail
  refine RC.out.mono ?_
  rintro e Z1 ⟨ov, rfl, hov, hbz⟩
  have hP9 := hPz.kp (Kp.nil.2 hbz) (by simp) (by simp) (by simp)
  have hK9 := hKz.ofBelow hbz
  have hid9 : ∀ e ∈ es, IdAt Z1 e.blk e.cap e.key := fun e he => (hidz e he).of_block (hbz.block _ (hidz e he).lt)
  have y := cell_of_heap hP9.po
  have yf := free_of_heap hP9.po
  simp at y
  obtain ⟨oa, om, oc, rfl⟩ := hov.shape
  obtain ⟨f8, hkE, hoE⟩ := out_end hP9 hov hid9
  have hKE := hK9.then hkE (by simp; omega)
  simp only [World.setCells, Nat.zero_add, Nat.reduceAdd, out9] at f8 hkE hoE hKE
  have HF := hide f8
  have HE := hide (And.intro hoE hKE)
  clear f8 hoE hKE hkE hP9 hK9 hov hid9 RC hTz hBz howz hidz hPz hKz
  unfold outOld
  go_wp2
  refine bodyPost_ret (v := .tuple #[outOld (.slice oa om oc), .nilIface]) (by have f8 := unhide HF; simp [results, Ybad.results10, go_sem, outOld, f8]) rfl ⟨_, rfl, HE.out.1, HE.out.2⟩

end Go.Proofs.YbulkagdqDoor

import Derived.Test.YbulkagdqDoorVa
namespace Go.Proofs.YbulkagdqDoor
open Go.RowKit
set_option linter.unusedVariables false

/-- What the law's checks read behind 'place'. -/
structure Mid (w X : World) (ab kb mb cb go gc tb nb xb rb j i : Nat) (f : Nat → Nat) (m aClk xclk s n : Int) (es : List Ent) (eI : Ent) : Prop where
  ccb : X.cell? ⟨cb, 0, none⟩ = some (.int .i64 1)
  go0 : X.cell? ⟨go, 0, none⟩ = some (.slice (some ⟨eI.blk, 0, none⟩) 1 eI.cap)
  go1 : X.cell? ⟨go, 1, none⟩ = some (.int .u64 i)
  gc0 : X.cell? ⟨gc, 0, none⟩ = some (.slice (some ⟨xb, 0, none⟩) 1 1)
  gc1 : X.cell? ⟨gc, 1, none⟩ = some (.int .u64 xclk)
  ckb : X.cell? ⟨kb, 0, none⟩ = some (.int .u8 (f i : Nat))
  ceb : X.cell? ⟨eI.blk, 0, none⟩ = some (.int .u8 (f i : Nat))
  cxb : X.cell? ⟨xb, 0, none⟩ = some (.int .u8 (f i : Nat))
  ctb : X.cell? ⟨tb, 32, none⟩ = some (.int .i64 j)
  cmb : X.cell? ⟨mb, 0, none⟩ = some (.int .u8 m)
  cab : X.cell? ⟨ab, 0, none⟩ = some (.int .u64 aClk)
  cn0 : X.cell? ⟨nb, 0, none⟩ = some (.int .u64 n)
  cn1 : X.cell? ⟨nb, 1, none⟩ = some (.int .i64 s)
  cn2 : X.cell? ⟨nb, 2, none⟩ = some (.pointer none)
  lts : cb < X.heap.size ∧ go < X.heap.size ∧ gc < X.heap.size ∧ kb < X.heap.size ∧ eI.blk < X.heap.size ∧ xb < X.heap.size ∧ tb < X.heap.size ∧ mb < X.heap.size ∧ ab < X.heap.size ∧ nb < X.heap.size ∧ rb < X.heap.size
  ids : ∀ e ∈ es, IdAt X e.blk e.cap e.key
  recs : ∀ t (h : t < (mkRecs f j).length), RecAt X rb (0 + t * 5) (mkRecs f j)[t]
  clk : eI.clk = i
  key : eI.key = f i
  below : Below w.heap.size w X

theorem mid {w Y w6 : World} {ab bb kb mb cb go gc tb g cap base rb j i nb xb : Nat} {f : Nat → Nat} {m aClk xclk s n : Int} {es : List Ent} {eI : Ent} (hS : St w Y ab bb kb mb cb go gc tb g cap base rb j i f m aClk es) (hel : es.length = j) (hi : i < j) (heI : es[i]'(by omega) = eI)
    (hnb : Y.heap[nb]? = some (.cells #[.int .u64 n, .int .i64 s, .pointer none] 28 (0, 0))) (hxb : Y.heap[xb]? = some (.cells #[.int .u8 (f i : Nat)] 5 (0, 0))) (hO : ArbOut w6 cb go gc (0 + 1) eI.blk eI.cap eI.clk xb 1 xclk) (hK : Kp [cb, go, gc, g, bb] Y w6) (o : Obj) :
    Mid w (w6.alloc o) ab kb mb cb go gc tb nb xb rb j i f m aClk xclk s n es eI := by
  obtain ⟨ts, ht1, ht2, ht3, ht4, ht5, ht6, ht7⟩ := hS.tab.at_
  obtain ⟨a0, ⟨x0, x1, x2, a1⟩, ⟨y0, y1, y2, a2⟩, a3, a4, a5, ane⟩ := hS.arb
  obtain ⟨bs, hb1, hb2, hb3, hb4⟩ := hS.buk.at_
  obtain ⟨gs, hgs⟩ := own_heap hS.own
  obtain ⟨rs, hrs⟩ := own_heap hS.row
  have nd : ∀ b cs t, Y.heap[b]? = some (.cells cs t (0, 0)) → t ≠ 3 → t ≠ 58 → t ≠ 60 → t ≠ 56 → (w6.alloc o).heap[b]? = Y.heap[b]? ∧ b < (w6.alloc o).heap.size := fun b cs t h h3 h58 h60 h56 => by
    have l := lt_of_heap h
    have hk := hK.block b l (by
      simp only [List.mem_cons, List.not_mem_nil, or_false, not_or]
      exact ⟨heap_ne h a0 h3, heap_ne h a1 h58, heap_ne h a2 h58, heap_ne h hgs h60, heap_ne h hb1 h56⟩)
    have l6 : b < w6.heap.size := Nat.lt_of_lt_of_le l hK.size
    exact ⟨(Below.heap_alloc _ _ _ l6).trans hk, by simp; omega⟩
  have hmem : eI ∈ es := heI ▸ List.getElem_mem _
  have hrec : eI.toRec = ⟨f i, i, 0, i⟩ := by
    have h1 : (es.map Ent.toRec)[i]? = (mkRecs f j)[i]? := by rw [hS.es_]
    rw [List.getElem?_map, List.getElem?_eq_getElem (by omega), List.getElem?_eq_getElem (by rw [mkRecs_length]; exact hi), mkRecs_get, heI] at h1
    simpa using h1
  have hclk : eI.clk = i := congrArg Rec.clk hrec
  have hkey : eI.key = f i := congrArg Rec.key hrec
  have c6 : ∀ b v o', w6.heap[b]? = some v → (w6.alloc o').heap[b]? = some v := fun b v o' h => (Below.heap_alloc _ _ _ (lt_of_heap h)).trans h
  have hids : ∀ e ∈ es, IdAt (w6.alloc o) e.blk e.cap e.key := fun e he => by
    obtain ⟨⟨cs, h1, h2⟩, h3⟩ := hS.ids e he
    exact ⟨⟨cs, (nd _ _ _ h1 (by decide) (by decide) (by decide) (by decide)).1.trans h1, h2⟩, h3⟩
  have b0 := c6 _ _ o hO.h0
  have b1 := c6 _ _ o hO.h1
  have b2 := c6 _ _ o hO.h2
  have n1 := nd _ _ _ a4 (by decide) (by decide) (by decide) (by decide)
  have n2 := nd _ _ _ a3 (by decide) (by decide) (by decide) (by decide)
  have n3 := nd _ _ _ a5 (by decide) (by decide) (by decide) (by decide)
  have n4 := nd _ _ _ ht1 (by decide) (by decide) (by decide) (by decide)
  have n5 := nd _ _ _ hnb (by decide) (by decide) (by decide) (by decide)
  have n6 := nd _ _ _ hxb (by decide) (by decide) (by decide) (by decide)
  have n7 := nd _ _ _ hrs (by decide) (by decide) (by decide) (by decide)
  have k1 := n1.1.trans a4
  have k2 := n2.1.trans a3
  have k3 := n3.1.trans a5
  have k4 := n4.1.trans ht1
  have k5 := n5.1.trans hnb
  have k6 := n6.1.trans hxb
  refine ⟨by rw [cell_of_heap b0]; rfl, by rw [cell_of_heap b1]; rfl, by rw [cell_of_heap b1, hclk]; rfl, by rw [cell_of_heap b2]; rfl, by rw [cell_of_heap b2]; rfl, by rw [cell_of_heap k1]; rfl, by rw [(hids eI hmem).cell, hkey], by rw [cell_of_heap k6]; rfl, by rw [cell_of_heap k4]; exact ht7, by rw [cell_of_heap k2]; rfl, by rw [cell_of_heap k3]; rfl, by rw [cell_of_heap k5]; rfl, by rw [cell_of_heap k5]; rfl, by rw [cell_of_heap k5]; rfl,
    ⟨lt_of_heap b0, lt_of_heap b1, lt_of_heap b2, n1.2, (hids eI hmem).lt, n6.2, n4.2, n2.2, n3.2, n5.2, n7.2⟩, hids, fun t h => (hS.recs t h).of_block n7.1, hclk, hkey, ?_⟩
  have hb6 : Below w.heap.size w w6 := hS.below.trans (hK.below hS.below.size (by
    intro x hx
    obtain ⟨z1, z2, z3, z4, z5, z6⟩ := hS.new
    simp only [List.mem_cons, List.not_mem_nil, or_false] at hx
    rcases hx with rfl | rfl | rfl | rfl | rfl <;> assumption))
  exact below_al hb6 _

theorem beq_new (W : World) (b c key k : Nat) (hk : k = W.heap.size) (hkey : key < 256) (h : W.cell? ⟨b, 0, none⟩ = some (.int .u8 key)) :
    Calls Ybad.prog 11 #[.slice (some ⟨b, 0, none⟩) 1 c, .slice (some ⟨k, 0, none⟩) 1 1] (W.alloc (.cells #[.int .u8 key] 5)) fun e w' => e = .returned (.bool true) ∧ w' = W.alloc (.cells #[.int .u8 key] 5) := by
  subst hk
  refine (beq11 b c W.heap.size 1 key key _ hkey hkey (by rw [World.cell?_alloc_past _ _ _ (lt_of_cell h)]; exact h) (by rw [World.cell?_alloc_new]; rfl)).mono ?_
  rintro e w' ⟨rfl, rfl⟩
  exact ⟨by rw [beq_self_eq_true], rfl⟩

theorem below2 {X w7 : World} {o1 o2 : Obj} (h : Below ((X.alloc o1).alloc o2).heap.size ((X.alloc o1).alloc o2) w7) : Below X.heap.size X w7 :=
  (below_al (below_al (Below.refl _ X) o1) o2).trans (h.mono (below_al (below_al (Below.refl _ X) o1) o2).size)

end Go.Proofs.YbulkagdqDoor

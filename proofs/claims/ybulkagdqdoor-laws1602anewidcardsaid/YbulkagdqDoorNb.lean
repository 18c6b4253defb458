import Derived.Test.YbulkagdqDoorNa
namespace Go.Proofs.YbulkagdqDoor
open Go.RowKit
set_option linter.unusedVariables false

set_option maxRecDepth 100000 in
set_option maxHeartbeats 2000000 in
theorem settle16_0 (tb : Nat) (K P R : Int) (onp : Value) (cnt : Int) (cb go gc mb kb ab : Nat) (q : Int) (key : Nat) (aClk : Int) (ib ic xb xc : Nat) (iclk xclk : Int) (w : World) (hT : TabAt w tb K P R (arbV 16 cb go gc mb kb ab) onp cnt) (hA : ArbIn w cb go gc mb kb ab q 0 key aClk) (hq0 : 0 ≤ q) (hq1 : q ≤ 100) :
    Calls Ybad.prog 23 #[.pointer (some ⟨tb, 0, none⟩), conV ib ic iclk, conV xb xc xclk] w fun e w' => (e = .returned (.tuple #[.agg #[.slice none 0 0, .int .u64 0, .nilIface], .bool false, .nilIface])) ∧ ArbOut w' cb go gc (q + 1) ib ic iclk xb xc xclk ∧ Kp [cb, go, gc] w w' := by
  obtain ⟨cs, ht, t1, t2, t3, t4, t5, t6⟩ := hT.at_
  have g := (cell_of_heap ht 6).trans t4
  unfold arbV at g
  have ltb := lt_of_heap ht
  obtain ⟨la, lb, lc⟩ := lts ltb
  have ld : tb < w.heap.size + 1 + 1 + 1 + 1 := by omega
  obtain ⟨s1, s2, s3, s4, s5, s6, s7⟩ := sizes w.heap.size
  have g3 : ∀ o1 o2 o3, (((w.alloc o1).alloc o2).alloc o3).cell? ⟨tb, 6, none⟩ = some (.func (.func 16) #[] #[.pointer (some ⟨cb, 0, none⟩), .pointer (some ⟨go, 0, none⟩), .pointer (some ⟨gc, 0, none⟩), .pointer (some ⟨mb, 0, none⟩), .pointer (some ⟨kb, 0, none⟩), .pointer (some ⟨ab, 0, none⟩)]) := by
    intro o1 o2 o3
    rw [World.cell?_alloc_past _ _ _ (by simp; omega), World.cell?_alloc_past _ _ _ (by simp; omega), World.cell?_alloc_past _ _ _ ltb]
    exact g
  have g4 : ∀ o1 o2 o3 o4, ((((w.alloc o1).alloc o2).alloc o3).alloc o4).cell? ⟨tb, 6, none⟩ = some (.func (.func 16) #[] #[.pointer (some ⟨cb, 0, none⟩), .pointer (some ⟨go, 0, none⟩), .pointer (some ⟨gc, 0, none⟩), .pointer (some ⟨mb, 0, none⟩), .pointer (some ⟨kb, 0, none⟩), .pointer (some ⟨ab, 0, none⟩)]) := by
    intro o1 o2 o3 o4
    rw [World.cell?_alloc_past _ _ _ (by simp; omega)]
    exact g3 _ _ _
  have hA' : ∀ W, Below w.heap.size w W → ArbIn W cb go gc mb kb ab q 0 key aClk := fun W hW => hA.below hW
  have HA := hide hA'
  obtain ⟨n1, n2, n3, c1, c2, c3⟩ : tb ≠ cb ∧ tb ≠ go ∧ tb ≠ gc ∧ cb < w.heap.size ∧ go < w.heap.size ∧ gc < w.heap.size := by
    obtain ⟨h0, ⟨x0, x1, x2, h1⟩, ⟨y0, y1, y2, h2⟩, h3, h4, h5, hne⟩ := hA
    exact ⟨heap_ne ht h0 (by decide), heap_ne ht h1 (by decide), heap_ne ht h2 (by decide), lt_of_heap h0, lt_of_heap h1, lt_of_heap h2⟩
  obtain ⟨e1, e2, e3, e4⟩ : w.heap.size + 1 + 1 + 1 ≠ tb ∧ w.heap.size + 1 + 1 + 1 ≠ w.heap.size ∧ w.heap.size + 1 + 1 ≠ w.heap.size ∧ w.heap.size + 1 ≠ w.heap.size := by omega
  obtain ⟨p1, p2, p3, p4⟩ := nes c1
  obtain ⟨p5, p6, p7, p8⟩ := nes c2
  obtain ⟨p9, p10, p11, p12⟩ := nes c3
  clear hA' ht t1 t2 t3 t4 t5 t6 hT hA
  go_enter Ybad.func23, Ybad.ntmps23
  unfold conV
  go_wp2
  go_cut [9, 10] (fun v9 v10 wx => ∃ sb, v9 = .pointer (some ⟨sb, 0, none⟩) ∧ v10 = .bool false ∧ w.heap.size + 1 + 1 < sb ∧ wx.heap[sb]? = some (.cells #[.slice none 0 0, .int .u64 0, .nilIface] 58 (0, 0)) ∧ ArbOut wx cb go gc (q + 1) ib ic iclk xb xc xclk ∧ Kp [cb, go, gc] (((w.alloc (.cells #[.slice (some ⟨ib, 0, none⟩) 1 ic, .int .u64 iclk, .nilIface] 58)).alloc (.cells #[.slice (some ⟨xb, 0, none⟩) 1 xc, .int .u64 xclk, .nilIface] 58)).alloc (.cells #[.slice none 0 0, .int .u64 0, .nilIface] 58)) wx)
  case first =>
    go_region_held3 (fun w' => w'.cell? ⟨tb, 6, none⟩ = some (.func (.func 16) #[] #[.pointer (some ⟨cb, 0, none⟩), .pointer (some ⟨go, 0, none⟩), .pointer (some ⟨gc, 0, none⟩), .pointer (some ⟨mb, 0, none⟩), .pointer (some ⟨kb, 0, none⟩), .pointer (some ⟨ab, 0, none⟩)])
       ∧ w'.cell? ⟨w.heap.size, 0, none⟩ = some (.slice (some ⟨ib, 0, none⟩) 1 ic) ∧ w'.cell? ⟨w.heap.size, 1, none⟩ = some (.int .u64 iclk) ∧ w'.cell? ⟨w.heap.size, 2, none⟩ = some .nilIface
       ∧ w'.cell? ⟨w.heap.size + 1, 0, none⟩ = some (.slice (some ⟨xb, 0, none⟩) 1 xc) ∧ w'.cell? ⟨w.heap.size + 1, 1, none⟩ = some (.int .u64 xclk) ∧ w'.cell? ⟨w.heap.size + 1, 2, none⟩ = some .nilIface) (go_keep)
      ((go_at_call 16; refine (arb16_0 cb go gc mb kb ab q key aClk ib ic xb xc iclk xclk _ (unhide HA _ (by repeat (first | exact Below.refl _ _ | refine Below.drew ?_ | refine below_al ?_ _))) hq0 hq1).mono ?_; rintro e w1 ⟨rfl, hO, hK⟩; obtain ⟨hcc, hff⟩ := kcell hK))
    all_goals (try go_wp2_with fail)
    all_goals go_meet
    case rel =>
      obtain ⟨r1, r2, r3, r4⟩ := settle_cut1 (w := w) (.slice none 0 0) (.int .u64 0) .nilIface (by simp) hO hK
      exact ⟨_, rfl, rfl, r1, r2, r3, r4⟩
    case rel =>
      obtain ⟨r2, r3, r4⟩ := settle_cut2 (w := w) (.slice none 0 0) (.int .u64 0) .nilIface (by simp) _ _ _ hO hK p4 p8 p12
      exact ⟨_, rfl, rfl, by omega, r2, r3, r4⟩
  case rest =>
    obtain ⟨sb, rfl, rfl, hsb, h1, h2, h3⟩ := hcut
    obtain ⟨hcc, hff⟩ := kcell h3
    have HH := hide (settle_end (w := w) ((((Kp.refl _ _).alloc _).alloc _).alloc _) (by omega) h2 h3 p3 p7 p11 (.slice none 0 0) (.int .u64 0) .nilIface)
    clear h1 h2 h3 g g3 g4 HA
    go_wp2
    exact bodyPost_ret (v := .tuple #[.agg #[.slice none 0 0, .int .u64 0, .nilIface], .bool false, .nilIface]) (by simp [results, Ybad.results23, go_sem, hcc, p3, p7, p11]) rfl ⟨rfl, HH.out⟩

set_option maxRecDepth 100000 in
set_option maxHeartbeats 2000000 in
theorem settle16_1 (tb : Nat) (K P R : Int) (onp : Value) (cnt : Int) (cb go gc mb kb ab : Nat) (q : Int) (key : Nat) (aClk : Int) (ib ic xb xc : Nat) (iclk xclk : Int) (w : World) (hT : TabAt w tb K P R (arbV 16 cb go gc mb kb ab) onp cnt) (hA : ArbIn w cb go gc mb kb ab q 1 key aClk) (hq0 : 0 ≤ q) (hq1 : q ≤ 100) (hI : IdAt w ib ic key) (hkey : key < 256) :
    Calls Ybad.prog 23 #[.pointer (some ⟨tb, 0, none⟩), conV ib ic iclk, conV xb xc xclk] w fun e w' => (e = .returned (.tuple #[.agg #[.slice (some ⟨ib, 0, none⟩) 1 ic, .int .u64 aClk, .nilIface], .bool true, .nilIface])) ∧ ArbOut w' cb go gc (q + 1) ib ic iclk xb xc xclk ∧ Kp [cb, go, gc] w w' := by
  have hibl := hI.lt
  have hibc := hI.cell
  obtain ⟨ia1, ia2, ia3⟩ := lts hibl
  obtain ⟨in1, in2, in3⟩ : ib ≠ cb ∧ ib ≠ go ∧ ib ≠ gc := by
    obtain ⟨h0, ⟨x0, x1, x2, h1⟩, ⟨y0, y1, y2, h2⟩, h3, h4, h5, hne⟩ := hA
    exact ⟨hI.ne h0 (by decide), hI.ne h1 (by decide), hI.ne h2 (by decide)⟩
  clear hI
  obtain ⟨cs, ht, t1, t2, t3, t4, t5, t6⟩ := hT.at_
  have g := (cell_of_heap ht 6).trans t4
  unfold arbV at g
  have ltb := lt_of_heap ht
  obtain ⟨la, lb, lc⟩ := lts ltb
  have ld : tb < w.heap.size + 1 + 1 + 1 + 1 := by omega
  obtain ⟨s1, s2, s3, s4, s5, s6, s7⟩ := sizes w.heap.size
  have g3 : ∀ o1 o2 o3, (((w.alloc o1).alloc o2).alloc o3).cell? ⟨tb, 6, none⟩ = some (.func (.func 16) #[] #[.pointer (some ⟨cb, 0, none⟩), .pointer (some ⟨go, 0, none⟩), .pointer (some ⟨gc, 0, none⟩), .pointer (some ⟨mb, 0, none⟩), .pointer (some ⟨kb, 0, none⟩), .pointer (some ⟨ab, 0, none⟩)]) := by
    intro o1 o2 o3
    rw [World.cell?_alloc_past _ _ _ (by simp; omega), World.cell?_alloc_past _ _ _ (by simp; omega), World.cell?_alloc_past _ _ _ ltb]
    exact g
  have g4 : ∀ o1 o2 o3 o4, ((((w.alloc o1).alloc o2).alloc o3).alloc o4).cell? ⟨tb, 6, none⟩ = some (.func (.func 16) #[] #[.pointer (some ⟨cb, 0, none⟩), .pointer (some ⟨go, 0, none⟩), .pointer (some ⟨gc, 0, none⟩), .pointer (some ⟨mb, 0, none⟩), .pointer (some ⟨kb, 0, none⟩), .pointer (some ⟨ab, 0, none⟩)]) := by
    intro o1 o2 o3 o4
    rw [World.cell?_alloc_past _ _ _ (by simp; omega)]
    exact g3 _ _ _
  have hA' : ∀ W, Below w.heap.size w W → ArbIn W cb go gc mb kb ab q 1 key aClk := fun W hW => hA.below hW
  have HA := hide hA'
  obtain ⟨n1, n2, n3, c1, c2, c3⟩ : tb ≠ cb ∧ tb ≠ go ∧ tb ≠ gc ∧ cb < w.heap.size ∧ go < w.heap.size ∧ gc < w.heap.size := by
    obtain ⟨h0, ⟨x0, x1, x2, h1⟩, ⟨y0, y1, y2, h2⟩, h3, h4, h5, hne⟩ := hA
    exact ⟨heap_ne ht h0 (by decide), heap_ne ht h1 (by decide), heap_ne ht h2 (by decide), lt_of_heap h0, lt_of_heap h1, lt_of_heap h2⟩
  obtain ⟨e1, e2, e3, e4⟩ : w.heap.size + 1 + 1 + 1 ≠ tb ∧ w.heap.size + 1 + 1 + 1 ≠ w.heap.size ∧ w.heap.size + 1 + 1 ≠ w.heap.size ∧ w.heap.size + 1 ≠ w.heap.size := by omega
  obtain ⟨p1, p2, p3, p4⟩ := nes c1
  obtain ⟨p5, p6, p7, p8⟩ := nes c2
  obtain ⟨p9, p10, p11, p12⟩ := nes c3
  clear hA' ht t1 t2 t3 t4 t5 t6 hT hA
  go_enter Ybad.func23, Ybad.ntmps23
  unfold conV
  go_wp2
  go_cut [9, 10] (fun v9 v10 wx => ∃ sb nb, v9 = .pointer (some ⟨sb, 0, none⟩) ∧ v10 = .bool true ∧ wx.cell? ⟨nb, 0, none⟩ = some (.int .u8 key) ∧ w.heap.size + 1 + 1 < nb ∧ sb ≠ nb ∧ w.heap.size + 1 + 1 < sb ∧ wx.heap[sb]? = some (.cells #[.slice (some ⟨nb, 0, none⟩) 1 1, .int .u64 aClk, .nilIface] 58 (0, 0)) ∧ ArbOut wx cb go gc (q + 1) ib ic iclk xb xc xclk ∧ Kp [cb, go, gc] (((w.alloc (.cells #[.slice (some ⟨ib, 0, none⟩) 1 ic, .int .u64 iclk, .nilIface] 58)).alloc (.cells #[.slice (some ⟨xb, 0, none⟩) 1 xc, .int .u64 xclk, .nilIface] 58)).alloc (.cells #[.slice none 0 0, .int .u64 0, .nilIface] 58)) wx)
  case first =>
    go_region_held3 (fun w' => w'.cell? ⟨tb, 6, none⟩ = some (.func (.func 16) #[] #[.pointer (some ⟨cb, 0, none⟩), .pointer (some ⟨go, 0, none⟩), .pointer (some ⟨gc, 0, none⟩), .pointer (some ⟨mb, 0, none⟩), .pointer (some ⟨kb, 0, none⟩), .pointer (some ⟨ab, 0, none⟩)])
       ∧ w'.cell? ⟨w.heap.size, 0, none⟩ = some (.slice (some ⟨ib, 0, none⟩) 1 ic) ∧ w'.cell? ⟨w.heap.size, 1, none⟩ = some (.int .u64 iclk) ∧ w'.cell? ⟨w.heap.size, 2, none⟩ = some .nilIface
       ∧ w'.cell? ⟨w.heap.size + 1, 0, none⟩ = some (.slice (some ⟨xb, 0, none⟩) 1 xc) ∧ w'.cell? ⟨w.heap.size + 1, 1, none⟩ = some (.int .u64 xclk) ∧ w'.cell? ⟨w.heap.size + 1, 2, none⟩ = some .nilIface) (go_keep)
      ((go_at_call 16; refine (arb16_1 cb go gc mb kb ab q key aClk ib ic xb xc iclk xclk _ (unhide HA _ (by repeat (first | exact Below.refl _ _ | refine Below.drew ?_ | refine below_al ?_ _))) hq0 hq1).mono ?_; rintro e w1 ⟨⟨nb, rfl, hnb, hnc⟩, hO, hK⟩; obtain ⟨hcc, hff⟩ := kcell hK))
    all_goals (try go_wp2_with fail)
    all_goals go_meet
    case rel =>
      obtain ⟨r1, r2, r3, r4⟩ := settle_cut1 (w := w) (.slice (some ⟨nb, 0, none⟩) 1 1) (.int .u64 aClk) .nilIface (by simp) hO hK
      exact ⟨_, _, rfl, rfl, by rw [World.cell?_alloc_past _ _ _ (lt_of_cell hnc)]; exact hnc, by have h := hnb; simp at h; omega, by have := lt_of_cell hnc; simp at this; omega, r1, r2, r3, r4⟩
    case rel =>
      obtain ⟨r2, r3, r4⟩ := settle_cut2 (w := w) (.slice (some ⟨nb, 0, none⟩) 1 1) (.int .u64 aClk) .nilIface (by simp) _ _ _ hO hK p4 p8 p12
      exact ⟨_, _, rfl, rfl, by have h := hnb; simp at h; rw [World.cell?_setCell_far _ _ _ _ (by simp; omega), World.cell?_setCell_far _ _ _ _ (by simp; omega), World.cell?_setCell_far _ _ _ _ (by simp; omega)]; exact hnc, by have h := hnb; simp at h; omega, by have h := hnb; simp at h; omega, by omega, r2, r3, r4⟩
  case rest =>
    obtain ⟨sb, nb, rfl, rfl, hn1, hn2, hn3, hsb, h1, h2, h3⟩ := hcut
    obtain ⟨hcc, hff⟩ := kcell h3
    have hi1 : wc.cell? ⟨ib, 0, none⟩ = some (.int .u8 key) := by
      rw [hcc ib 0 (by simp; omega) in1 in2 in3, World.cell?_alloc_past _ _ _ (by simp; omega), World.cell?_alloc_past _ _ _ (by simp; omega), World.cell?_alloc_past _ _ _ hibl]
      exact hibc
    have b0 := cell_of_heap h1 0
    have b1 := cell_of_heap h1 1
    have b2 := cell_of_heap h1 2
    have bf := free_of_heap h1
    simp at b0 b1 b2
    have bn : sb ≠ w.heap.size + 1 + 1 := by omega
    have bn' : w.heap.size + 1 + 1 ≠ sb := by omega
    have bn2 : sb ≠ w.heap.size := by omega
    have HH0 := h2
    have hbq := lt_of_heap h1
    obtain ⟨q1, q2, q3⟩ : sb ≠ cb ∧ sb ≠ go ∧ sb ≠ gc := by
      have l0 := lt_of_heap h2.h0
      refine ⟨heap_ne h1 h2.h0 (by decide), ?_, ?_⟩
      · intro e; subst e; omega
      · intro e; subst e; omega
    have HH := hide (settle_end (w := w) (wc := wc.setCell ⟨sb, 0, none⟩ (.slice (some ⟨ib, 0, none⟩) 1 ic)) ((((Kp.refl _ _).alloc _).alloc _).alloc _) (by omega) (h2.kp (D := [sb]) ((Kp.refl _ _).setCell (by simp) _) (by simpa using q1.symm) (by simpa using q2.symm) (by simpa using q3.symm)) (h3.setNew (by simp; omega) _) p3 p7 p11 (.slice (some ⟨ib, 0, none⟩) 1 ic) (.int .u64 aClk) .nilIface)
    clear h1 h2 h3 g g3 g4 HA HH0
    go_wp2_with (go_at_call 11; refine (beq11 nb 1 ib ic key key _ hkey hkey hn1 hi1).mono ?_; rintro e w' ⟨rfl, rfl⟩)
    exact bodyPost_ret (v := .tuple #[.agg #[.slice (some ⟨ib, 0, none⟩) 1 ic, .int .u64 aClk, .nilIface], .bool true, .nilIface]) (by simp [results, Ybad.results23, go_sem, hcc, p3, p7, p11]) rfl ⟨rfl, HH.out⟩

set_option maxRecDepth 100000 in
set_option maxHeartbeats 2000000 in
theorem settle16_2 (tb : Nat) (K P R : Int) (onp : Value) (cnt : Int) (cb go gc mb kb ab : Nat) (q : Int) (key : Nat) (aClk : Int) (ib ic xb xc : Nat) (iclk xclk : Int) (ikey ET : Nat) (ea : Addr) (w : World) (hT : TabAt w tb K P R (arbV 16 cb go gc mb kb ab) onp cnt) (hA : ArbIn w cb go gc mb kb ab q 2 key aClk) (hq0 : 0 ≤ q) (hq1 : q ≤ 100) (hI : IdAt w ib ic ikey)  (hE : w.cell? ⟨0, 0, none⟩ = some (.iface ET (.pointer (some ea)))) (h0b : 0 ≠ cb ∧ 0 ≠ go ∧ 0 ≠ gc) :
    Calls Ybad.prog 23 #[.pointer (some ⟨tb, 0, none⟩), conV ib ic iclk, conV xb xc xclk] w fun e w' => (∃ eb g cap, e = .returned (.tuple #[.agg #[.slice none 0 0, .int .u64 0, .nilIface], .bool false, .iface 99 (.pointer (some ⟨eb, 0, none⟩))]) ∧ w.heap.size ≤ eb ∧ w'.heap[eb]? = some (.cells #[.slice (some ⟨g, 0, none⟩) 2 cap, .iface ET (.pointer (some ea))] 103 (0, 0)) ∧ w'.cell? ⟨g, 0, none⟩ = some (.int .u8 key) ∧ w'.cell? ⟨g, 1, none⟩ = some (.int .u8 0)) ∧ ArbOut w' cb go gc (q + 1) ib ic iclk xb xc xclk ∧ Kp [cb, go, gc] w w' := by
  have hibl := hI.lt
  have hibc := hI.cell
  obtain ⟨ia1, ia2, ia3⟩ := lts hibl
  obtain ⟨in1, in2, in3⟩ : ib ≠ cb ∧ ib ≠ go ∧ ib ≠ gc := by
    obtain ⟨h0, ⟨x0, x1, x2, h1⟩, ⟨y0, y1, y2, h2⟩, h3, h4, h5, hne⟩ := hA
    exact ⟨hI.ne h0 (by decide), hI.ne h1 (by decide), hI.ne h2 (by decide)⟩
  clear hI
  have hEl := lt_of_cell hE
  simp at hEl
  obtain ⟨cs, ht, t1, t2, t3, t4, t5, t6⟩ := hT.at_
  have g := (cell_of_heap ht 6).trans t4
  unfold arbV at g
  have ltb := lt_of_heap ht
  obtain ⟨la, lb, lc⟩ := lts ltb
  have ld : tb < w.heap.size + 1 + 1 + 1 + 1 := by omega
  obtain ⟨s1, s2, s3, s4, s5, s6, s7⟩ := sizes w.heap.size
  have g3 : ∀ o1 o2 o3, (((w.alloc o1).alloc o2).alloc o3).cell? ⟨tb, 6, none⟩ = some (.func (.func 16) #[] #[.pointer (some ⟨cb, 0, none⟩), .pointer (some ⟨go, 0, none⟩), .pointer (some ⟨gc, 0, none⟩), .pointer (some ⟨mb, 0, none⟩), .pointer (some ⟨kb, 0, none⟩), .pointer (some ⟨ab, 0, none⟩)]) := by
    intro o1 o2 o3
    rw [World.cell?_alloc_past _ _ _ (by simp; omega), World.cell?_alloc_past _ _ _ (by simp; omega), World.cell?_alloc_past _ _ _ ltb]
    exact g
  have g4 : ∀ o1 o2 o3 o4, ((((w.alloc o1).alloc o2).alloc o3).alloc o4).cell? ⟨tb, 6, none⟩ = some (.func (.func 16) #[] #[.pointer (some ⟨cb, 0, none⟩), .pointer (some ⟨go, 0, none⟩), .pointer (some ⟨gc, 0, none⟩), .pointer (some ⟨mb, 0, none⟩), .pointer (some ⟨kb, 0, none⟩), .pointer (some ⟨ab, 0, none⟩)]) := by
    intro o1 o2 o3 o4
    rw [World.cell?_alloc_past _ _ _ (by simp; omega)]
    exact g3 _ _ _
  have hA' : ∀ W, Below w.heap.size w W → ArbIn W cb go gc mb kb ab q 2 key aClk := fun W hW => hA.below hW
  have HA := hide hA'
  obtain ⟨n1, n2, n3, c1, c2, c3⟩ : tb ≠ cb ∧ tb ≠ go ∧ tb ≠ gc ∧ cb < w.heap.size ∧ go < w.heap.size ∧ gc < w.heap.size := by
    obtain ⟨h0, ⟨x0, x1, x2, h1⟩, ⟨y0, y1, y2, h2⟩, h3, h4, h5, hne⟩ := hA
    exact ⟨heap_ne ht h0 (by decide), heap_ne ht h1 (by decide), heap_ne ht h2 (by decide), lt_of_heap h0, lt_of_heap h1, lt_of_heap h2⟩
  obtain ⟨e1, e2, e3, e4⟩ : w.heap.size + 1 + 1 + 1 ≠ tb ∧ w.heap.size + 1 + 1 + 1 ≠ w.heap.size ∧ w.heap.size + 1 + 1 ≠ w.heap.size ∧ w.heap.size + 1 ≠ w.heap.size := by omega
  obtain ⟨p1, p2, p3, p4⟩ := nes c1
  obtain ⟨p5, p6, p7, p8⟩ := nes c2
  obtain ⟨p9, p10, p11, p12⟩ := nes c3
  clear hA' ht t1 t2 t3 t4 t5 t6 hT hA
  go_enter Ybad.func23, Ybad.ntmps23
  unfold conV
  go_wp2
  go_cut [9, 10] (fun v9 v10 wx => ∃ sb nb, v9 = .pointer (some ⟨sb, 0, none⟩) ∧ v10 = .bool true ∧ wx.cell? ⟨nb, 0, none⟩ = some (.int .u8 key) ∧ wx.cell? ⟨nb, 1, none⟩ = some (.int .u8 0) ∧ w.heap.size + 1 + 1 < nb ∧ sb ≠ nb ∧ w.heap.size + 1 + 1 < sb ∧ wx.heap[sb]? = some (.cells #[.slice (some ⟨nb, 0, none⟩) 2 2, .int .u64 aClk, .nilIface] 58 (0, 0)) ∧ ArbOut wx cb go gc (q + 1) ib ic iclk xb xc xclk ∧ Kp [cb, go, gc] (((w.alloc (.cells #[.slice (some ⟨ib, 0, none⟩) 1 ic, .int .u64 iclk, .nilIface] 58)).alloc (.cells #[.slice (some ⟨xb, 0, none⟩) 1 xc, .int .u64 xclk, .nilIface] 58)).alloc (.cells #[.slice none 0 0, .int .u64 0, .nilIface] 58)) wx)
  case first =>
    go_region_held3 (fun w' => w'.cell? ⟨tb, 6, none⟩ = some (.func (.func 16) #[] #[.pointer (some ⟨cb, 0, none⟩), .pointer (some ⟨go, 0, none⟩), .pointer (some ⟨gc, 0, none⟩), .pointer (some ⟨mb, 0, none⟩), .pointer (some ⟨kb, 0, none⟩), .pointer (some ⟨ab, 0, none⟩)])
       ∧ w'.cell? ⟨w.heap.size, 0, none⟩ = some (.slice (some ⟨ib, 0, none⟩) 1 ic) ∧ w'.cell? ⟨w.heap.size, 1, none⟩ = some (.int .u64 iclk) ∧ w'.cell? ⟨w.heap.size, 2, none⟩ = some .nilIface
       ∧ w'.cell? ⟨w.heap.size + 1, 0, none⟩ = some (.slice (some ⟨xb, 0, none⟩) 1 xc) ∧ w'.cell? ⟨w.heap.size + 1, 1, none⟩ = some (.int .u64 xclk) ∧ w'.cell? ⟨w.heap.size + 1, 2, none⟩ = some .nilIface) (go_keep)
      ((go_at_call 16; refine (arb16_2 cb go gc mb kb ab q key aClk ib ic xb xc iclk xclk _ (unhide HA _ (by repeat (first | exact Below.refl _ _ | refine Below.drew ?_ | refine below_al ?_ _))) hq0 hq1).mono ?_; rintro e w1 ⟨⟨nb, rfl, hnb, hnc, hnc2⟩, hO, hK⟩; obtain ⟨hcc, hff⟩ := kcell hK))
    all_goals (try go_wp2_with fail)
    all_goals go_meet
    case rel =>
      obtain ⟨r1, r2, r3, r4⟩ := settle_cut1 (w := w) (.slice (some ⟨nb, 0, none⟩) 2 2) (.int .u64 aClk) .nilIface (by simp) hO hK
      exact ⟨_, _, rfl, rfl, by rw [World.cell?_alloc_past _ _ _ (lt_of_cell hnc)]; exact hnc, by rw [World.cell?_alloc_past _ _ _ (lt_of_cell hnc2)]; exact hnc2, by have h := hnb; simp at h; omega, by have := lt_of_cell hnc; simp at this; omega, r1, r2, r3, r4⟩
    case rel =>
      obtain ⟨r2, r3, r4⟩ := settle_cut2 (w := w) (.slice (some ⟨nb, 0, none⟩) 2 2) (.int .u64 aClk) .nilIface (by simp) _ _ _ hO hK p4 p8 p12
      exact ⟨_, _, rfl, rfl, by have h := hnb; simp at h; rw [World.cell?_setCell_far _ _ _ _ (by simp; omega), World.cell?_setCell_far _ _ _ _ (by simp; omega), World.cell?_setCell_far _ _ _ _ (by simp; omega)]; exact hnc, by have h := hnb; simp at h; rw [World.cell?_setCell_far _ _ _ _ (by simp; omega), World.cell?_setCell_far _ _ _ _ (by simp; omega), World.cell?_setCell_far _ _ _ _ (by simp; omega)]; exact hnc2, by have h := hnb; simp at h; omega, by have h := hnb; simp at h; omega, by omega, r2, r3, r4⟩
  case rest =>
    obtain ⟨sb, nb, rfl, rfl, hn1, hm1, hn2, hn3, hsb, h1, h2, h3⟩ := hcut
    obtain ⟨hcc, hff⟩ := kcell h3
    have hi1 : wc.cell? ⟨ib, 0, none⟩ = some (.int .u8 ikey) := by
      rw [hcc ib 0 (by simp; omega) in1 in2 in3, World.cell?_alloc_past _ _ _ (by simp; omega), World.cell?_alloc_past _ _ _ (by simp; omega), World.cell?_alloc_past _ _ _ hibl]
      exact hibc
    have hE1 : wc.cell? ⟨0, 0, none⟩ = some (.iface ET (.pointer (some ea))) := by
      rw [hcc 0 0 (by simp) h0b.1 h0b.2.1 h0b.2.2, World.cell?_alloc_past _ _ _ (by simp), World.cell?_alloc_past _ _ _ (by simp), World.cell?_alloc_past _ _ _ hEl]
      exact hE
    have b0 := cell_of_heap h1 0
    have b1 := cell_of_heap h1 1
    have b2 := cell_of_heap h1 2
    have bf := free_of_heap h1
    simp at b0 b1 b2
    have bn : sb ≠ w.heap.size + 1 + 1 := by omega
    have bn' : w.heap.size + 1 + 1 ≠ sb := by omega
    have bn2 : sb ≠ w.heap.size := by omega
    have hbq := lt_of_heap h1
    have HH := hide (And.intro h2 h3)
    have hz : wc.heap[w.heap.size + 1 + 1]? = some (.cells #[.slice none 0 0, .int .u64 0, .nilIface] 58 (0, 0)) := by
      rw [h3.block _ (by simp) (by simp [p3, p7, p11])]
      have := heap_alloc_new' ((w.alloc (.cells #[.slice (some ⟨ib, 0, none⟩) 1 ic, .int .u64 iclk, .nilIface] 58)).alloc (.cells #[.slice (some ⟨xb, 0, none⟩) 1 xc, .int .u64 xclk, .nilIface] 58)) (.cells #[.slice none 0 0, .int .u64 0, .nilIface] 58)
      simpa using this
    have z0 := cell_of_heap hz 0
    have z1 := cell_of_heap hz 1
    have z2 := cell_of_heap hz 2
    have zf := free_of_heap hz
    simp at z0 z1 z2
    have HZ := hide hz
    have b3 : wc.cell? ⟨w.heap.size, 0, none⟩ = some (.slice (some ⟨ib, 0, none⟩) 1 ic) := by
      rw [hcc w.heap.size 0 (by simp; omega) p1 p5 p9, World.cell?_alloc_past _ _ _ (by simp; omega), World.cell?_alloc_past _ _ _ (by simp), World.cell?_alloc_new]
      rfl
    clear h1 h2 h3 g g3 g4 HA hcc hff hE hibc hz
    have x1 : w.heap.size + 1 + 1 ≠ nb := by omega
    have x3 := lt_of_cell hn1
    simp only [] at x3
    have x4 : 0 < wc.heap.size := by omega
    have x5 : w.heap.size + 1 + 1 < wc.heap.size := by omega
    have x2 : w.heap.size + 1 + 1 ≠ 0 := by omega
    have szs : ∀ v0 v1 v2, (((wc.setCell ⟨w.heap.size + 1 + 1, 0, none⟩ v0).setCell ⟨w.heap.size + 1 + 1, 1, none⟩ v1).setCell ⟨w.heap.size + 1 + 1, 2, none⟩ v2).heap.size = wc.heap.size := fun v0 v1 v2 => by rw [size_setCell, size_setCell, size_setCell]
    go_wp2_with (go_at_call 11; refine (beq21 nb 2 ib ic key ikey _ hn1 hm1 hi1).mono ?_; rintro e wd ⟨rfl, rfl⟩)
    go_cut [7, 8] (fun v7 v8 wx => ∃ eb g cap, v7 = .bool false ∧ v8 = .iface 99 (.pointer (some ⟨eb, 0, none⟩)) ∧ w.heap.size + 1 + 1 < eb ∧ wx.heap[w.heap.size + 1 + 1]? = some (.cells #[.slice none 0 0, .int .u64 0, .nilIface] 58 (0, 0)) ∧ wx.heap[eb]? = some (.cells #[.slice (some ⟨g, 0, none⟩) 2 cap, .iface ET (.pointer (some ea))] 103 (0, 0)) ∧ wx.cell? ⟨g, 0, none⟩ = some (.int .u8 key) ∧ wx.cell? ⟨g, 1, none⟩ = some (.int .u8 0) ∧ ArbOut wx cb go gc (q + 1) ib ic iclk xb xc xclk ∧ Kp [cb, go, gc] w wx)
    case first =>
      go_region_held3 (fun x => x.cell? ⟨sb, 0, none⟩ = some (.slice (some ⟨nb, 0, none⟩) 2 2) ∧ x.cell? ⟨0, 0, none⟩ = some (.iface ET (.pointer (some ea))) ∧ x.cell? ⟨nb, 0, none⟩ = some (.int .u8 key) ∧ x.cell? ⟨nb, 1, none⟩ = some (.int .u8 0)) (go_keep)
        ((go_at_call 26; refine (clone2 nb 2 key _ (by simp [*]) (by simp [*])).mono ?_; rintro e w1 ⟨g, cap, rfl, hg, hc0, hc1, hb⟩; obtain ⟨hcc2, hff2⟩ := bcellD hb; have y := below_sizeD hb; (try rw [szs] at y); have y5 : w.heap.size + 1 + 1 < w1.heap.size := by omega))
      all_goals (try go_wp2_with fail)
      all_goals go_meet
      case rel =>
        obtain ⟨r1, r2, r3, r4, r5, r6, r7⟩ := settle_cut5 (w := w) HH.out.1 ((((Kp.refl _ _).alloc _).alloc _).alloc _) HH.out.2 HZ.out hb hg hc0 hc1 p3 p7 p11 (.iface ET (.pointer (some ea))) cap
        exact ⟨_, _, _, rfl, rfl, r1, r2, r3, r4, r5, r6, r7⟩
      case rel =>
        obtain ⟨r1, r2, r3, r4, r5, r6, r7⟩ := settle_cut5 (w := w) HH.out.1 ((((Kp.refl _ _).alloc _).alloc _).alloc _) HH.out.2 HZ.out hb hg hc0 hc1 p3 p7 p11 (.iface ET (.pointer (some ea))) cap
        exact ⟨_, _, _, rfl, rfl, r1, r2, r3, r4, r5, r6, r7⟩
    case rest =>
      obtain ⟨eb, g, cap, rfl, rfl, r1, r2, r3, r4, r5, r6, r7⟩ := hcut
      have y0 := cell_of_heap r2 0
      have y1 := cell_of_heap r2 1
      have y2 := cell_of_heap r2 2
      simp at y0 y1 y2
      have HF := hide (And.intro r3 (And.intro r4 (And.intro r5 (And.intro r6 r7))))
      clear r2 r3 r4 r5 r6 r7
      go_wp2
      exact bodyPost_ret (v := .tuple #[.agg #[.slice none 0 0, .int .u64 0, .nilIface], .bool false, .iface 99 (.pointer (some ⟨eb, 0, none⟩))]) (by simp [results, Ybad.results23, go_sem, y0, y1, y2]) rfl ⟨⟨eb, g, cap, rfl, by omega, HF.out.1, HF.out.2.1, HF.out.2.2.1⟩, HF.out.2.2.2.1, HF.out.2.2.2.2⟩


end Go.Proofs.YbulkagdqDoor

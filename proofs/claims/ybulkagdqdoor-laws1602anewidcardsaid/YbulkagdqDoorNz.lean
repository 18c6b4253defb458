import Derived.Test.YbulkagdqDoorPg
import Derived.Laws.EntriesVeiled
namespace Go.Proofs.YbulkagdqDoor
open Go.RowKit
set_option linter.unusedVariables false
set_option maxRecDepth 100000

theorem IdsF.inBytes {w : World} {va : Option Addr} {k base gi : Nat} {f : Nat → Nat} (h : IdsF w va k base gi f) : InBytes w va k ((List.range k).map fun t => (f t : Int)) := by
  refine ⟨by simp, fun i => ?_, fun h0 => ?_⟩
  · rcases Nat.lt_or_ge i k with hi | hi
    · have := h.bd i hi
      simp [hi]
      omega
    · simp [List.getElem?_eq_none (show ((List.range k).map fun t => (f t : Int)).length ≤ i by simpa using hi)]
  · obtain ⟨h1, h2, cs, h3⟩ := h.hva h0
    refine ⟨gi, 0, h1, lt_of_heap h3, fun i hi => ?_⟩
    rw [Nat.zero_add, h.at_ i hi]
    simp [hi]
theorem mkO_ok (o : Nat) (f : Nat → Nat) (k : Nat) (h : o + k ≤ 10000) : ∀ r ∈ mkO o f k, 0 ≤ r.n ∧ r.n < 1000000000 := fun r hr => by
  obtain ⟨t, ht, rfl⟩ := List.getElem_of_mem hr
  rw [mkO_length] at ht
  rw [mkO_get]
  simp only []
  omega

theorem alloc7 (w : World) (o0 o1 o2 o3 o4 o5 o6 : Obj) :
    let W := ((((((w.alloc o0).alloc o1).alloc o2).alloc o3).alloc o4).alloc o5).alloc o6
    W.heap[w.heap.size]? = some o0 ∧ W.heap[w.heap.size + 1]? = some o1 ∧ W.heap[w.heap.size + 1 + 1]? = some o2 ∧ W.heap[w.heap.size + 1 + 1 + 1]? = some o3 ∧ W.heap[w.heap.size + 1 + 1 + 1 + 1]? = some o4 ∧ W.heap[w.heap.size + 1 + 1 + 1 + 1 + 1]? = some o5 ∧ W.heap[w.heap.size + 1 + 1 + 1 + 1 + 1 + 1]? = some o6 ∧ Below w.heap.size w W ∧ W.heap.size = w.heap.size + 1 + 1 + 1 + 1 + 1 + 1 + 1 := by
  obtain ⟨a0, a1, a2, a3, a4⟩ := place_three w o0 o1 o2
  generalize ((w.alloc o0).alloc o1).alloc o2 = A at a0 a1 a2 a3 a4
  obtain ⟨c0, c1, c2, c3, c4⟩ := place_three A o3 o4 o5
  dsimp only
  generalize ((A.alloc o3).alloc o4).alloc o5 = B at c0 c1 c2 c3 c4
  rw [a4] at c0 c1 c2 c3 c4
  have n := heap_alloc_new' B o6
  rw [c4] at n
  refine ⟨?_, ?_, ?_, ?_, ?_, ?_, n, below_al (a3.trans (c3.mono (by omega))) _, by simp [c4]⟩
  · rw [Below.heap_alloc _ _ _ (by omega), c3.block _ (by omega)]; exact a0
  · rw [Below.heap_alloc _ _ _ (by omega), c3.block _ (by omega)]; exact a1
  · rw [Below.heap_alloc _ _ _ (by omega), c3.block _ (by omega)]; exact a2
  · rw [Below.heap_alloc _ _ _ (by omega)]; exact c0
  · rw [Below.heap_alloc _ _ _ (by omega)]; exact c1
  · rw [Below.heap_alloc _ _ _ (by omega)]; exact c2

theorem alloc2 (w : World) (o0 o1 : Obj) : ((w.alloc o0).alloc o1).heap[w.heap.size + 1]? = some o1 ∧ Below w.heap.size w ((w.alloc o0).alloc o1) ∧ ((w.alloc o0).alloc o1).heap.size = w.heap.size + 1 + 1 := by
  have n := heap_alloc_new' (w.alloc o0) o1
  have h : (w.alloc o0).heap.size = w.heap.size + 1 := by simp
  rw [h] at n
  exact ⟨n, below_al (below_al (Below.refl _ _) _) _, by simp⟩
set_option maxHeartbeats 12000000 in
theorem newid_any (a : Option Addr) (n c : Nat) (zs : List Int) (a2 : Option Addr) (n2 c2 : Nat) (zs2 : List Int) (key : Nat) (kk rr pp : Int) (ping : Bool) (xclk aClk mm d : Int) (ea : Addr) (w : World) (hz : InBytes w a n zs) (hz2 : InBytes w a2 n2 zs2) (hkey : key < 256) (hkk0 : 0 ≤ kk) (hkk1 : kk ≤ 255) (hrr0 : 0 ≤ rr) (hrr1 : rr ≤ 255) (hpp0 : 0 ≤ pp) (hpp1 : pp ≤ 255) (hc0 : 0 ≤ xclk) (hc1 : xclk ≤ 18446744073709551615) (ha0 : 0 ≤ aClk) (ha1 : aClk ≤ 18446744073709551615) (hm0 : 0 ≤ mm) (hm1 : mm ≤ 255)
    (hd1 : -9223372036854775808 ≤ d) (hd2 : d ≤ 9223372036854775807)
    (hE : w.cell? ⟨0, 0, none⟩ = some (.iface 142 (.pointer (some ea)))) (hG : w.cell? ⟨1, 0, none⟩ = some (.iface 129 (.agg #[.pointer (some ⟨2, 77, none⟩)]))) :
    Calls Ybad.prog 4 #[.slice a n c, .slice a2 n2 c2, .int .u8 (key : Int), .int .u8 kk, .int .u8 rr, .int .u8 pp, .bool ping, .int .u64 xclk, .int .u64 aClk, .int .u8 mm, .int .i64 d] w fun e w' => e = .returned (.bool true) ∧ Below w.heap.size w w' := by
  obtain ⟨Kn, eK, hK1, hK8⟩ : ∃ Kn : Nat, 1 + kk % 8 = (Kn : Int) ∧ 1 ≤ Kn ∧ Kn ≤ 8 := ⟨(1 + kk % 8).toNat, by omega, by omega, by omega⟩
  obtain ⟨Rn, eR, hR3⟩ : ∃ Rn : Nat, rr % 4 = (Rn : Int) ∧ Rn ≤ 3 := ⟨(rr % 4).toNat, by omega, by omega⟩
  obtain ⟨Pn, eP, hP1, hP4⟩ : ∃ Pn : Nat, 1 + pp % 4 = (Pn : Int) ∧ 1 ≤ Pn ∧ Pn ≤ 4 := ⟨(1 + pp % 4).toNat, by omega, by omega, by omega⟩
  by_cases hn : n ≤ 1024
  · by_cases hn2 : n2 ≤ 1024
    · have hn' : ¬ (1024 < n) := by omega
      have hn2' : ¬ (1024 < n2) := by omega
      have hn1 : ¬ ((1024 : Int) < (n : Int)) := by omega
      have hn21 : ¬ ((1024 : Int) < (n2 : Int)) := by omega
      have hb0 : Below w.heap.size w ((w.alloc (.cells #[.int .u8 (key : Int)] 5)).alloc (.cells #[.int .u64 aClk] 23)) := below_al (below_al (Below.refl _ _) _) _
      have hkb0 : ((w.alloc (.cells #[.int .u8 (key : Int)] 5)).alloc (.cells #[.int .u64 aClk] 23)).heap[w.heap.size]? = some (.cells #[.int .u8 (key : Int)] 5 (0, 0)) := (Below.heap_alloc _ _ _ (by simp)).trans (heap_alloc_new' _ _)
      have hab0 : ((w.alloc (.cells #[.int .u8 (key : Int)] 5)).alloc (.cells #[.int .u64 aClk] 23)).heap[w.heap.size + 1]? = some (.cells #[.int .u64 aClk] 23 (0, 0)) := by
        have := heap_alloc_new' (w.alloc (.cells #[.int .u8 (key : Int)] 5)) (.cells #[.int .u64 aClk] 23)
        simpa using this
      have hs0 : ((w.alloc (.cells #[.int .u8 (key : Int)] 5)).alloc (.cells #[.int .u64 aClk] 23)).heap.size = w.heap.size + 1 + 1 := by simp
      go_enter Ybad.func4, Ybad.ntmps4
      go_upto_region 6 with fail
      rw [eR]
      generalize (w.alloc (.cells #[.int .u8 (key : Int)] 5)).alloc (.cells #[.int .u64 aClk] 23) = W1 at hb0 hkb0 hab0 hs0 ⊢
      clear hn' hn2' hn1 hn21 eK eR eP
      -- the ids
      have ck1 : W1.cell? ⟨w.heap.size, 0, none⟩ = some (.int .u8 (key : Int)) := (cell_of_heap hkb0 0).trans rfl
      have hb1 := below_al hb0 (.cells #[.int .u8 (key : Int)] 5)
      have D1 := hide (distinct_any a n c zs (some ⟨w.heap.size + 1 + 1, 0, none⟩) 1 1 [(key : Int)] Kn (W1.alloc (.cells #[.int .u8 (key : Int)] 5)) (hz.below hb1) ⟨rfl, fun i => by rcases i with _ | i <;> simp <;> omega, fun _ => ⟨w.heap.size + 1 + 1, 0, rfl, by simp; omega, fun i hi => by
        obtain rfl : i = 0 := by omega
        have h := heap_alloc_new' W1 (.cells #[.int .u8 (key : Int)] 5)
        rw [hs0] at h
        exact (cell_of_heap h 0).trans rfl⟩⟩ hn (by omega) (by omega))
      go_upto_region 8 with fail
      refine D1.out.mono ?_
      rintro e W2 ⟨v, l, rfl, how, hbd, hnd, hlen, hB⟩
      obtain ⟨va, vc, rfl⟩ := sl_shape how
      have hbW2 : Below W1.heap.size W1 W2 := (below_al (Below.refl _ _) _).trans (hB.mono (by simp))
      obtain ⟨gi, f, hF⟩ := idsF_of how hbd hnd
      have hbX : Below w.heap.size w W2 := hb0.trans (hbW2.mono (by omega))
      have hkbX := (hbW2.block _ (lt_of_heap hkb0)).trans hkb0
      have habX := (hbW2.block _ (lt_of_heap hab0)).trans hab0
      obtain ⟨k, hkl⟩ : ∃ k, l.length = k := ⟨_, rfl⟩
      rw [hkl] at how hF hlen
      rw [hkl]
      clear hB hbd hnd D1 hb1 ck1
      by_cases hKl : k = Kn
      · obtain rfl := hKl
        have hKl' : ((k : Int) == (k : Int)) = true := by simp
        have D2 := hide (distinct_any a2 n2 c2 zs2 va k vc _ Rn W2 (hz2.below hbX) hF.inBytes hn2 (by omega) (by omega))
        go_upto_region 10 with fail
        refine D2.out.mono ?_
        rintro e X ⟨v2, l2, rfl, how2, hbd2, hnd2, hlen2, hbX2⟩
        obtain ⟨ra, rcx, rfl⟩ := sl_shape how2
        obtain ⟨gr, fr, hFr⟩ := idsF_of how2 hbd2 hnd2
        obtain ⟨rl, hrl⟩ : ∃ rl, l2.length = rl := ⟨_, rfl⟩
        rw [hrl] at how2 hFr hlen2
        rw [hrl]
        replace hF := hF.kp (Kp.nil.2 hbX2) (by simp)
        replace hbX := hbX.trans (hbX2.mono hbX.size)
        replace hkbX := (hbX2.block _ (lt_of_heap hkbX)).trans hkbX
        replace habX := (hbX2.block _ (lt_of_heap habX)).trans habX
        clear D2 hbd2 hnd2 hbX2 how how2 hbW2
        go_upto_region 10 with fail
        -- world X, at region 10; hbX Below, hkbX, habX; hF : IdsF X va k .. gi f; hFr : IdsF X ra' rl .. gr fr
        obtain ⟨i0, hii, hzz0, hzz1, hzz2⟩ := info_parts Ybad.info31
        obtain ⟨X1, hmk1, hown1, hgr1⟩ := run_make_full (P := Ybad.prog) X X.heap.size 25 31 i0 _ 5 Ybad.underlying25 hii hzz0 hzz1 .i64 .i64 k (by rw [hzz2]; omega) (by unfold maxLen; omega) (Nat.le_refl _)
        have hK1 : Kp [] X X1 := Kp.nil.2 ((Below.refl _ X).grown hgr1 (Nat.le_refl _) (fun _ h => by cases h))
        have hF1 := hF.kp hK1 (by simp)
        go_upto_region 12 with fail
        refine law_loop1 (gi := gi) (f := f) (by omega) (fun h => by obtain ⟨h1, h2, cs, h3⟩ := hF1.hva h; exact ⟨h1, lt_of_heap h3, by have := (hF.hva h); obtain ⟨_, _, cs', h4⟩ := this; have := lt_of_heap h4; omega⟩) hF1.at_ hown1 ?_
        intro t29 t30 t94 t95 t96 t97 t98 t99 t100 t101 t102 t103 t104 t105 t106 t107 t108 X2 hown2 hkk2
        have hs1 := hK1.size
        obtain ⟨rcs, hrcs⟩ := own_heap hown2
        have hlt1 := lt_of_heap hrcs
        have hs2 := hkk2.size
        have hK2 : Kp [] X X2 := hK1.then hkk2 (by simp)
        clear hmk1 hgr1 hF1 hown1
        obtain ⟨X3, hmk3, hown3, hgr3⟩ := run_make_full (P := Ybad.prog) X2 X2.heap.size 25 31 i0 _ 5 Ybad.underlying25 hii hzz0 hzz1 .i64 .i64 rl (by rw [hzz2]; omega) (by unfold maxLen; omega) (Nat.le_refl _)
        have hK3 : Kp [] X2 X3 := Kp.nil.2 ((Below.refl _ X2).grown hgr3 (Nat.le_refl _) (fun _ h => by cases h))
        have hFr3 := (hFr.kp hK2 (by simp)).kp hK3 (by simp)
        go_upto_region 18 with fail
        refine law_loop2 (gi := gr) (f := fr) (by omega) (fun h => by obtain ⟨h1, h2, cs, h3⟩ := hFr3.hva h; exact ⟨h1, lt_of_heap h3, by obtain ⟨_, _, cs', h4⟩ := (hFr.kp hK2 (by simp)).hva h; have := lt_of_heap h4; omega⟩) hFr3.at_ hown3 ?_
        intro t32 t33 t114 t115 t116 t117 t118 t119 t120 t121 t122 t123 t124 t125 t126 t127 t128 t129 t130 X4 hown4 hkk4
        have hs3 := hK3.size
        obtain ⟨rrcs, hrrcs⟩ := own_heap hown4
        have hlt4 := lt_of_heap hrrcs
        have hK4 : Kp [] X2 X4 := hK3.then hkk4 (by simp)
        have hrow1 : X4.ownsRow X.heap.size 31 5 (.slice (some ⟨X.heap.size, 0, none⟩) k k) k (recCells (mkO 0 f k)) := own_of_block hown2 (hK4.block _ hlt1 (by simp))
        clear hmk3 hgr3 hFr3 hown3 hown2
        have hs4 := hK4.size
        -- the bucket
        have hrA := fun (Y : World) (h : Below X4.heap.size X4 Y) => rec_at_own (X := Y) hrow1 (h.block _ (by omega))
        have hrB := fun (Y : World) (h : Below X4.heap.size X4 Y) => rec_at_own (X := Y) hown4 (h.block _ hlt4)
        have E1 := hide (entries_all X.heap.size k (mkO 0 f k) (X4.alloc (.cells #[.int .u8 0] 5)) (by omega) (mkO_length _ _ _) (by simp; omega) (hrA _ (below_al (Below.refl _ _) _)))
        go_upto_region 23 with fail
        refine E1.out.mono ?_
        rintro e X5 ⟨va5, vc5, es, rfl, ho5, he5, hi5, hb5⟩
        have hb45 : Below X4.heap.size X4 X5 := (below_al (Below.refl _ _) _).trans (hb5.mono (by simp))
        have E2 := hide (entries_all X2.heap.size rl (mkO 100 fr rl) X5 (by omega) (mkO_length _ _ _) (by have := hb45.size; omega) (hrB _ hb45))
        go_upto_region 23 with fail
        refine E2.out.mono ?_
        rintro e X6 ⟨va6, vc6, er, rfl, ho6, he6, hi6, hb6⟩
        go_upto_region 29 with fail
        obtain ⟨b0, b1, b2, b3, b4, b5, b6, hb67, hs7⟩ := alloc7 X6 (.cells #[.int .i32 0, .int .u32 0, .int .u32 0, .int .u32 0, .int .i32 0, .int .i32 0, .int .u64 0, .int .i64 0, .slice (some ⟨X4.heap.size, 0, none⟩) 1 1, .slice va5 k vc5, .slice va6 rl vc6, .pointer none] 56) (.cells #[.int .u8 (mm % 3)] 5) (.cells #[.int .i64 0] 3) (.cells #[.slice none 0 0, .int .u64 0, .nilIface] 58) (.cells #[.slice none 0 0, .int .u64 0, .nilIface] 58) (.cells #[.int .i64 0] 3) (.cells #[.int .i64 (k : Int), .int .i64 (Pn : Int), .int .i64 0, .int .i64 (Rn : Int), .nilFunc, arbV 16 (X6.heap.size + 1 + 1) (X6.heap.size + 1 + 1 + 1) (X6.heap.size + 1 + 1 + 1 + 1) (X6.heap.size + 1) w.heap.size (w.heap.size + 1), .nilFunc, .nilFunc, .nilFunc, .nilFunc] 68)
        unfold arbV at b0 b1 b2 b3 b4 b5 b6 hb67 hs7
        generalize ((((((X6.alloc (.cells #[.int .i32 0, .int .u32 0, .int .u32 0, .int .u32 0, .int .i32 0, .int .i32 0, .int .u64 0, .int .i64 0, .slice (some ⟨X4.heap.size, 0, none⟩) 1 1, .slice va5 k vc5, .slice va6 rl vc6, .pointer none] 56)).alloc (.cells #[.int .u8 (mm % 3)] 5)).alloc (.cells #[.int .i64 0] 3)).alloc (.cells #[.slice none 0 0, .int .u64 0, .nilIface] 58)).alloc (.cells #[.slice none 0 0, .int .u64 0, .nilIface] 58)).alloc (.cells #[.int .i64 0] 3)).alloc (.cells #[.int .i64 (k : Int), .int .i64 (Pn : Int), .int .i64 0, .int .i64 (Rn : Int), .nilFunc, .func (.func 16) #[] #[.pointer (some ⟨X6.heap.size + 1 + 1, 0, none⟩), .pointer (some ⟨X6.heap.size + 1 + 1 + 1, 0, none⟩), .pointer (some ⟨X6.heap.size + 1 + 1 + 1 + 1, 0, none⟩), .pointer (some ⟨X6.heap.size + 1, 0, none⟩), .pointer (some ⟨w.heap.size, 0, none⟩), .pointer (some ⟨w.heap.size + 1, 0, none⟩)], .nilFunc, .nilFunc, .nilFunc, .nilFunc] 68) = X7 at b0 b1 b2 b3 b4 b5 b6 hb67 hs7 ⊢
        have o0 := cell_of_heap b6
        have of := free_of_heap b6
        simp at o0
        cases ping
        · go_upto_region 32 with fail
          obtain ⟨e1, hb89, hs9⟩ := alloc2 X7 (.cells #[.int .u8 255] 5) (.cells #[.slice (some ⟨X6.heap.size + 1 + 1 + 1 + 1 + 1 + 1 + 1, 0, none⟩) 1 1, .int .i64 (k : Int), .int .i64 (Pn : Int), .int .i64 0, .int .i64 (Rn : Int), .nilFunc, .func (.func 16) #[] #[.pointer (some ⟨X6.heap.size + 1 + 1, 0, none⟩), .pointer (some ⟨X6.heap.size + 1 + 1 + 1, 0, none⟩), .pointer (some ⟨X6.heap.size + 1 + 1 + 1 + 1, 0, none⟩), .pointer (some ⟨X6.heap.size + 1, 0, none⟩), .pointer (some ⟨w.heap.size, 0, none⟩), .pointer (some ⟨w.heap.size + 1, 0, none⟩)], .nilFunc, .nilFunc, .nilFunc, .nilFunc, .int .u64 0, .int .i64 0, .pointer none, .int .i32 0, .int .u32 0, .int .u32 0, .int .u32 0, .int .i32 0, .int .i32 0, .int .i32 0, .int .u32 0, .int .u32 0, .int .u32 0, .int .i32 0, .int .i32 0, .int .u64 0, .int .i64 0, .slice none 0 0, .slice none 0 0, .slice none 0 0, .pointer none, .int .i64 (k : Int)] 70)
          generalize hX9 : (World.alloc (World.alloc X7 (.cells #[.int .u8 255] 5)) (.cells #[.slice (some ⟨X6.heap.size + 1 + 1 + 1 + 1 + 1 + 1 + 1, 0, none⟩) 1 1, .int .i64 (k : Int), .int .i64 (Pn : Int), .int .i64 0, .int .i64 (Rn : Int), .nilFunc, .func (.func 16) #[] #[.pointer (some ⟨X6.heap.size + 1 + 1, 0, none⟩), .pointer (some ⟨X6.heap.size + 1 + 1 + 1, 0, none⟩), .pointer (some ⟨X6.heap.size + 1 + 1 + 1 + 1, 0, none⟩), .pointer (some ⟨X6.heap.size + 1, 0, none⟩), .pointer (some ⟨w.heap.size, 0, none⟩), .pointer (some ⟨w.heap.size + 1, 0, none⟩)], .nilFunc, .nilFunc, .nilFunc, .nilFunc, .int .u64 0, .int .i64 0, .pointer none, .int .i32 0, .int .u32 0, .int .u32 0, .int .u32 0, .int .i32 0, .int .i32 0, .int .i32 0, .int .u32 0, .int .u32 0, .int .u32 0, .int .i32 0, .int .i32 0, .int .u64 0, .int .i64 0, .slice none 0 0, .slice none 0 0, .slice none 0 0, .pointer none, .int .i64 (k : Int)] 70)) = X9 at e1 hb89 hs9 ⊢
          have hk8 : Kp [X6.heap.size + 1 + 1 + 1 + 1 + 1 + 1] X7 X7 := Kp.refl _ _
          have hs8 : (X7).heap.size = X7.heap.size := rfl
          have hT9 : TabAt X9 (X6.heap.size + 1 + 1 + 1 + 1 + 1 + 1 + 1 + 1) k (Pn : Int) Rn (arbV 16 (X6.heap.size + 1 + 1) (X6.heap.size + 1 + 1 + 1) (X6.heap.size + 1 + 1 + 1 + 1) (X6.heap.size + 1) w.heap.size (w.heap.size + 1)) (onpV false (X6.heap.size + 1 + 1 + 1 + 1 + 1)) (k : Int) := ⟨_, by rw [hs8, hs7] at e1; exact e1, rfl, rfl, rfl, rfl, rfl, rfl⟩
          have hk79 : Kp [X6.heap.size + 1 + 1 + 1 + 1 + 1 + 1] X7 X9 := hk8.ofBelow hb89
          clear hX9 hk8 e1 hb89 o0 of b6
          rw [hs8, hs7] at hs9
          clear hs8
          have hb69 : Below X6.heap.size X6 X9 := hb67.trans (hk79.below (by omega) (by simp; omega))
          have hsX4 := (hK2.trans hK4).size
          have hs45 := hb45.size
          have hs56 := hb6.size
          have hkb9 : X9.cell? ⟨w.heap.size, 0, none⟩ = some (.int .u8 (key : Int)) := (cell_of_heap ((hb69.block _ (by have := lt_of_heap hkbX; omega)).trans ((hb6.block _ (by have := lt_of_heap hkbX; omega)).trans ((hb45.block _ (by have := lt_of_heap hkbX; omega)).trans (((hK2.trans hK4).block _ (lt_of_heap hkbX) (by simp)).trans hkbX)))) 0).trans rfl
          have hkbl := lt_of_heap hkbX
          go_upto_region 33 with fail
          refine (add_any d _ hd1 hd2).mono ?_
          rintro e X10 ⟨rfl, hb910⟩
          unfold tmV
          have hkb10 := (World.cell?_of_block (w := X9) (a := ⟨w.heap.size, 0, none⟩) (hb910.block w.heap.size (by omega))).trans hkb9
          have hkl10 : w.heap.size < X10.heap.size := by have := hb910.size; omega
          go_upto_region 35 with fail
          obtain ⟨f0, f1, f2, hb1011, hs11⟩ := place_three X10 (.cells #[.int .u64 (tNs d), .int .i64 (tSec d), .pointer none] 28) (.cells #[.int .u8 (key : Int)] 5) (.cells #[.slice (some ⟨X10.heap.size + 1, 0, none⟩) 1 1, .int .u64 xclk, .nilIface] 58)
          generalize ((X10.alloc (.cells #[.int .u64 (tNs d), .int .i64 (tSec d), .pointer none] 28)).alloc (.cells #[.int .u8 (key : Int)] 5)).alloc (.cells #[.slice (some ⟨X10.heap.size + 1, 0, none⟩) 1 1, .int .u64 xclk, .nilIface] 58) = XX at f0 f1 f2 hb1011 hs11 ⊢
          have h910 : Below X9.heap.size X9 XX := hb910.trans (hb1011.mono hb910.size)
          have h7 : Kp [X6.heap.size + 1 + 1 + 1 + 1 + 1 + 1] X7 XX := hk79.ofBelow h910
          have h6 : Below X6.heap.size X6 XX := hb69.trans (h910.mono (by omega))
          have h5 : Below X5.heap.size X5 XX := hb6.trans (h6.mono hs56)
          have h4 : Below X4.heap.size X4 XX := hb45.trans (h5.mono hs45)
          have h0 : Below X.heap.size X XX := (Kp.nil.1 (hK2.trans hK4)).trans (h4.mono hsX4)
          have hs10 := hb910.size
          have hbal : (X4.alloc (.cells #[.int .u8 0] 5)).heap.size = X4.heap.size + 1 := by simp
          have hNS : NS w XX w.heap.size (w.heap.size + 1) (X6.heap.size + 1) (X6.heap.size + 1 + 1) (X6.heap.size + 1 + 1 + 1) (X6.heap.size + 1 + 1 + 1 + 1) (X6.heap.size + 1 + 1 + 1 + 1 + 1) (X6.heap.size + 1 + 1 + 1 + 1 + 1 + 1 + 1 + 1) X6.heap.size X10.heap.size (X10.heap.size + 1 + 1) (X10.heap.size + 1) X.heap.size X2.heap.size key aClk (mm % 3) xclk (tSec d) (tNs d) k Pn Rn false k rl va5 va6 vc5 vc6 (X4.heap.size + 1) X5.heap.size es er (mkO 0 f k) (mkO 100 fr rl) := by
            refine ⟨hbX.trans (h0.mono hbX.size), by omega, ⟨(h7.block _ (lt_of_heap b2) (by simp)).trans b2, ⟨_, _, _, (h7.block _ (lt_of_heap b3) (by simp)).trans b3⟩, ⟨_, _, _, (h7.block _ (lt_of_heap b4) (by simp)).trans b4⟩, (h7.block _ (lt_of_heap b1) (by simp)).trans b1, (h0.block _ (lt_of_heap hkbX)).trans hkbX, (h0.block _ (lt_of_heap habX)).trans habX, by omega⟩, hT9.of_block (h910.block _ (by omega)), ⟨_, (h7.block _ (lt_of_heap b0) (by simp; omega)).trans b0, rfl, rfl, rfl⟩, own_block_of (by rw [← hbal]; exact ho5) (fun q hq => h5.block q (low_of ho5 q hq)), fun e he => (hi5 e he).1.of_block (h5.block _ (hi5 e he).1.lt), he5, mkO_length _ _ _, own_block_of ho6 (fun q hq => h6.block q (low_of ho6 q hq)), fun e he => (hi6 e he).1.of_block (h6.block _ (hi6 e he).1.lt), he6, mkO_length _ _ _, ?_, rec_at_own hrow1 (h4.block _ (by omega)), ?_, rec_at_own hown4 (h4.block _ hlt4), (h7.block _ (lt_of_heap b5) (by simp)).trans b5, by omega, f0, f2, by omega, f1, by omega, ?_⟩
            · obtain ⟨cs, hc⟩ := own_heap hrow1
              exact ⟨cs, (h4.block _ (lt_of_heap hc)).trans hc⟩
            · obtain ⟨cs, hc⟩ := own_heap hown4
              exact ⟨cs, (h4.block _ (lt_of_heap hc)).trans hc⟩
            · intro g g' hg hg'
              have h1 := low_of ho5 g hg
              have h2 := own_ge ho6 g' hg'
              omega
          have hFX := hFr.kp (Kp.nil.2 h0) (by simp)
          have hkeys : ∀ e ∈ er, e.key < 256 := fun e he => by
            obtain ⟨t, ht, rfl⟩ := List.getElem_of_mem he
            have hl : er.length = rl := by have := congrArg List.length hNS.es2; simpa [mkO_length] using this
            rw [er_key hNS.es2 t ht]
            exact hFX.bd t (by omega)
          have herl : er.length = rl := by have := congrArg List.length hNS.es2; simpa [mkO_length] using this
          obtain ⟨g, cap, hv⟩ := own_some hNS.own1 (by omega)
          injection hv with hva _ hvc
          subst hva hvc
          by_cases hR0 : Rn = 0
          · exact tailR0 hNS hkey (by omega) (by omega) (by omega) (by omega) (tNs_bd d) (mkO_ok _ _ _ (by omega)) (mkO_ok _ _ _ (by omega)) rfl (by omega) hR0 hlen2 (by assumption)
          · by_cases hms : ∀ t, t < rl → fr t ≠ key
            · exact tailMiss hNS hkey (by omega) (by omega) (by omega) (by omega) (tNs_bd d) (mkO_ok _ _ _ (by omega)) (mkO_ok _ _ _ (by omega)) rfl (by omega) (by omega) hlen2 rfl hFX hkeys hms (by assumption)
            · obtain ⟨j, hj, hfj⟩ : ∃ j, j < rl ∧ fr j = key := by
                apply Classical.byContradiction
                intro hno
                exact hms (fun t ht e => hno ⟨t, ht, e⟩)
              obtain ⟨g2, cap2, hv2⟩ := own_some hNS.own2 (by omega)
              injection hv2 with hva2 _ hvc2
              subst hva2 hvc2
              rcases (by omega : mm % 3 = 0 ∨ mm % 3 = 1 ∨ mm % 3 = 2) with hm | hm | hm
              · rw [hm] at hNS
                exact tailHit0 hNS hkey (by omega) (by omega) (by omega) (by omega) (tNs_bd d) (mkO_ok _ _ _ (by omega)) (mkO_ok _ _ _ (by omega)) rfl (by omega) (by omega) hlen2 rfl hFX hkeys (by omega) hfj (by assumption)
              · rw [hm] at hNS
                exact tailHit1 hNS hkey (by omega) (by omega) (by omega) (by omega) (tNs_bd d) (mkO_ok _ _ _ (by omega)) (mkO_ok _ _ _ (by omega)) rfl (by omega) (by omega) hlen2 rfl hFX hkeys (by omega) hfj (by assumption)
              · rw [hm] at hNS
                exact tailHit2 hNS hkey (by omega) (by omega) (by omega) (by omega) (tNs_bd d) (mkO_ok _ _ _ (by omega)) (mkO_ok _ _ _ (by omega)) rfl (by omega) (by omega) hlen2 rfl hFX hkeys (by omega) hfj hE hG (by assumption)
        · go_upto_region 32 with fail
          obtain ⟨e1, hb89, hs9⟩ := alloc2 (X7.setCell ⟨X6.heap.size + 1 + 1 + 1 + 1 + 1 + 1, 9, none⟩ (.func (.func 17) #[] #[.pointer (some ⟨X6.heap.size + 1 + 1 + 1 + 1 + 1, 0, none⟩)])) (.cells #[.int .u8 255] 5) (.cells #[.slice (some ⟨X6.heap.size + 1 + 1 + 1 + 1 + 1 + 1 + 1, 0, none⟩) 1 1, .int .i64 (k : Int), .int .i64 (Pn : Int), .int .i64 0, .int .i64 (Rn : Int), .nilFunc, .func (.func 16) #[] #[.pointer (some ⟨X6.heap.size + 1 + 1, 0, none⟩), .pointer (some ⟨X6.heap.size + 1 + 1 + 1, 0, none⟩), .pointer (some ⟨X6.heap.size + 1 + 1 + 1 + 1, 0, none⟩), .pointer (some ⟨X6.heap.size + 1, 0, none⟩), .pointer (some ⟨w.heap.size, 0, none⟩), .pointer (some ⟨w.heap.size + 1, 0, none⟩)], .nilFunc, .nilFunc, .nilFunc, .func (.func 17) #[] #[.pointer (some ⟨X6.heap.size + 1 + 1 + 1 + 1 + 1, 0, none⟩)], .int .u64 0, .int .i64 0, .pointer none, .int .i32 0, .int .u32 0, .int .u32 0, .int .u32 0, .int .i32 0, .int .i32 0, .int .i32 0, .int .u32 0, .int .u32 0, .int .u32 0, .int .i32 0, .int .i32 0, .int .u64 0, .int .i64 0, .slice none 0 0, .slice none 0 0, .slice none 0 0, .pointer none, .int .i64 (k : Int)] 70)
          generalize hX9 : (World.alloc (World.alloc (X7.setCell ⟨X6.heap.size + 1 + 1 + 1 + 1 + 1 + 1, 9, none⟩ (.func (.func 17) #[] #[.pointer (some ⟨X6.heap.size + 1 + 1 + 1 + 1 + 1, 0, none⟩)])) (.cells #[.int .u8 255] 5)) (.cells #[.slice (some ⟨X6.heap.size + 1 + 1 + 1 + 1 + 1 + 1 + 1, 0, none⟩) 1 1, .int .i64 (k : Int), .int .i64 (Pn : Int), .int .i64 0, .int .i64 (Rn : Int), .nilFunc, .func (.func 16) #[] #[.pointer (some ⟨X6.heap.size + 1 + 1, 0, none⟩), .pointer (some ⟨X6.heap.size + 1 + 1 + 1, 0, none⟩), .pointer (some ⟨X6.heap.size + 1 + 1 + 1 + 1, 0, none⟩), .pointer (some ⟨X6.heap.size + 1, 0, none⟩), .pointer (some ⟨w.heap.size, 0, none⟩), .pointer (some ⟨w.heap.size + 1, 0, none⟩)], .nilFunc, .nilFunc, .nilFunc, .func (.func 17) #[] #[.pointer (some ⟨X6.heap.size + 1 + 1 + 1 + 1 + 1, 0, none⟩)], .int .u64 0, .int .i64 0, .pointer none, .int .i32 0, .int .u32 0, .int .u32 0, .int .u32 0, .int .i32 0, .int .i32 0, .int .i32 0, .int .u32 0, .int .u32 0, .int .u32 0, .int .i32 0, .int .i32 0, .int .u64 0, .int .i64 0, .slice none 0 0, .slice none 0 0, .slice none 0 0, .pointer none, .int .i64 (k : Int)] 70)) = X9 at e1 hb89 hs9 ⊢
          have hk8 : Kp [X6.heap.size + 1 + 1 + 1 + 1 + 1 + 1] X7 (X7.setCell ⟨X6.heap.size + 1 + 1 + 1 + 1 + 1 + 1, 9, none⟩ (.func (.func 17) #[] #[.pointer (some ⟨X6.heap.size + 1 + 1 + 1 + 1 + 1, 0, none⟩)])) := (Kp.refl _ _).setCell (by simp) _
          have hs8 : ((X7.setCell ⟨X6.heap.size + 1 + 1 + 1 + 1 + 1 + 1, 9, none⟩ (.func (.func 17) #[] #[.pointer (some ⟨X6.heap.size + 1 + 1 + 1 + 1 + 1, 0, none⟩)]))).heap.size = X7.heap.size := size_setCell _ _ _
          have hT9 : TabAt X9 (X6.heap.size + 1 + 1 + 1 + 1 + 1 + 1 + 1 + 1) k (Pn : Int) Rn (arbV 16 (X6.heap.size + 1 + 1) (X6.heap.size + 1 + 1 + 1) (X6.heap.size + 1 + 1 + 1 + 1) (X6.heap.size + 1) w.heap.size (w.heap.size + 1)) (onpV true (X6.heap.size + 1 + 1 + 1 + 1 + 1)) (k : Int) := ⟨_, by rw [hs8, hs7] at e1; exact e1, rfl, rfl, rfl, rfl, rfl, rfl⟩
          have hk79 : Kp [X6.heap.size + 1 + 1 + 1 + 1 + 1 + 1] X7 X9 := hk8.ofBelow hb89
          clear hX9 hk8 e1 hb89 o0 of b6
          rw [hs8, hs7] at hs9
          clear hs8
          have hb69 : Below X6.heap.size X6 X9 := hb67.trans (hk79.below (by omega) (by simp; omega))
          have hsX4 := (hK2.trans hK4).size
          have hs45 := hb45.size
          have hs56 := hb6.size
          have hkb9 : X9.cell? ⟨w.heap.size, 0, none⟩ = some (.int .u8 (key : Int)) := (cell_of_heap ((hb69.block _ (by have := lt_of_heap hkbX; omega)).trans ((hb6.block _ (by have := lt_of_heap hkbX; omega)).trans ((hb45.block _ (by have := lt_of_heap hkbX; omega)).trans (((hK2.trans hK4).block _ (lt_of_heap hkbX) (by simp)).trans hkbX)))) 0).trans rfl
          have hkbl := lt_of_heap hkbX
          go_upto_region 33 with fail
          refine (add_any d _ hd1 hd2).mono ?_
          rintro e X10 ⟨rfl, hb910⟩
          unfold tmV
          have hkb10 := (World.cell?_of_block (w := X9) (a := ⟨w.heap.size, 0, none⟩) (hb910.block w.heap.size (by omega))).trans hkb9
          have hkl10 : w.heap.size < X10.heap.size := by have := hb910.size; omega
          go_upto_region 35 with fail
          obtain ⟨f0, f1, f2, hb1011, hs11⟩ := place_three X10 (.cells #[.int .u64 (tNs d), .int .i64 (tSec d), .pointer none] 28) (.cells #[.int .u8 (key : Int)] 5) (.cells #[.slice (some ⟨X10.heap.size + 1, 0, none⟩) 1 1, .int .u64 xclk, .nilIface] 58)
          generalize ((X10.alloc (.cells #[.int .u64 (tNs d), .int .i64 (tSec d), .pointer none] 28)).alloc (.cells #[.int .u8 (key : Int)] 5)).alloc (.cells #[.slice (some ⟨X10.heap.size + 1, 0, none⟩) 1 1, .int .u64 xclk, .nilIface] 58) = XX at f0 f1 f2 hb1011 hs11 ⊢
          have h910 : Below X9.heap.size X9 XX := hb910.trans (hb1011.mono hb910.size)
          have h7 : Kp [X6.heap.size + 1 + 1 + 1 + 1 + 1 + 1] X7 XX := hk79.ofBelow h910
          have h6 : Below X6.heap.size X6 XX := hb69.trans (h910.mono (by omega))
          have h5 : Below X5.heap.size X5 XX := hb6.trans (h6.mono hs56)
          have h4 : Below X4.heap.size X4 XX := hb45.trans (h5.mono hs45)
          have h0 : Below X.heap.size X XX := (Kp.nil.1 (hK2.trans hK4)).trans (h4.mono hsX4)
          have hs10 := hb910.size
          have hbal : (X4.alloc (.cells #[.int .u8 0] 5)).heap.size = X4.heap.size + 1 := by simp
          have hNS : NS w XX w.heap.size (w.heap.size + 1) (X6.heap.size + 1) (X6.heap.size + 1 + 1) (X6.heap.size + 1 + 1 + 1) (X6.heap.size + 1 + 1 + 1 + 1) (X6.heap.size + 1 + 1 + 1 + 1 + 1) (X6.heap.size + 1 + 1 + 1 + 1 + 1 + 1 + 1 + 1) X6.heap.size X10.heap.size (X10.heap.size + 1 + 1) (X10.heap.size + 1) X.heap.size X2.heap.size key aClk (mm % 3) xclk (tSec d) (tNs d) k Pn Rn true k rl va5 va6 vc5 vc6 (X4.heap.size + 1) X5.heap.size es er (mkO 0 f k) (mkO 100 fr rl) := by
            refine ⟨hbX.trans (h0.mono hbX.size), by omega, ⟨(h7.block _ (lt_of_heap b2) (by simp)).trans b2, ⟨_, _, _, (h7.block _ (lt_of_heap b3) (by simp)).trans b3⟩, ⟨_, _, _, (h7.block _ (lt_of_heap b4) (by simp)).trans b4⟩, (h7.block _ (lt_of_heap b1) (by simp)).trans b1, (h0.block _ (lt_of_heap hkbX)).trans hkbX, (h0.block _ (lt_of_heap habX)).trans habX, by omega⟩, hT9.of_block (h910.block _ (by omega)), ⟨_, (h7.block _ (lt_of_heap b0) (by simp; omega)).trans b0, rfl, rfl, rfl⟩, own_block_of (by rw [← hbal]; exact ho5) (fun q hq => h5.block q (low_of ho5 q hq)), fun e he => (hi5 e he).1.of_block (h5.block _ (hi5 e he).1.lt), he5, mkO_length _ _ _, own_block_of ho6 (fun q hq => h6.block q (low_of ho6 q hq)), fun e he => (hi6 e he).1.of_block (h6.block _ (hi6 e he).1.lt), he6, mkO_length _ _ _, ?_, rec_at_own hrow1 (h4.block _ (by omega)), ?_, rec_at_own hown4 (h4.block _ hlt4), (h7.block _ (lt_of_heap b5) (by simp)).trans b5, by omega, f0, f2, by omega, f1, by omega, ?_⟩
            · obtain ⟨cs, hc⟩ := own_heap hrow1
              exact ⟨cs, (h4.block _ (lt_of_heap hc)).trans hc⟩
            · obtain ⟨cs, hc⟩ := own_heap hown4
              exact ⟨cs, (h4.block _ (lt_of_heap hc)).trans hc⟩
            · intro g g' hg hg'
              have h1 := low_of ho5 g hg
              have h2 := own_ge ho6 g' hg'
              omega
          have hFX := hFr.kp (Kp.nil.2 h0) (by simp)
          have hkeys : ∀ e ∈ er, e.key < 256 := fun e he => by
            obtain ⟨t, ht, rfl⟩ := List.getElem_of_mem he
            have hl : er.length = rl := by have := congrArg List.length hNS.es2; simpa [mkO_length] using this
            rw [er_key hNS.es2 t ht]
            exact hFX.bd t (by omega)
          have herl : er.length = rl := by have := congrArg List.length hNS.es2; simpa [mkO_length] using this
          obtain ⟨g, cap, hv⟩ := own_some hNS.own1 (by omega)
          injection hv with hva _ hvc
          subst hva hvc
          by_cases hR0 : Rn = 0
          · exact tailR0 hNS hkey (by omega) (by omega) (by omega) (by omega) (tNs_bd d) (mkO_ok _ _ _ (by omega)) (mkO_ok _ _ _ (by omega)) rfl (by omega) hR0 hlen2 (by assumption)
          · by_cases hms : ∀ t, t < rl → fr t ≠ key
            · exact tailMiss hNS hkey (by omega) (by omega) (by omega) (by omega) (tNs_bd d) (mkO_ok _ _ _ (by omega)) (mkO_ok _ _ _ (by omega)) rfl (by omega) (by omega) hlen2 rfl hFX hkeys hms (by assumption)
            · obtain ⟨j, hj, hfj⟩ : ∃ j, j < rl ∧ fr j = key := by
                apply Classical.byContradiction
                intro hno
                exact hms (fun t ht e => hno ⟨t, ht, e⟩)
              obtain ⟨g2, cap2, hv2⟩ := own_some hNS.own2 (by omega)
              injection hv2 with hva2 _ hvc2
              subst hva2 hvc2
              rcases (by omega : mm % 3 = 0 ∨ mm % 3 = 1 ∨ mm % 3 = 2) with hm | hm | hm
              · rw [hm] at hNS
                exact tailHit0 hNS hkey (by omega) (by omega) (by omega) (by omega) (tNs_bd d) (mkO_ok _ _ _ (by omega)) (mkO_ok _ _ _ (by omega)) rfl (by omega) (by omega) hlen2 rfl hFX hkeys (by omega) hfj (by assumption)
              · rw [hm] at hNS
                exact tailHit1 hNS hkey (by omega) (by omega) (by omega) (by omega) (tNs_bd d) (mkO_ok _ _ _ (by omega)) (mkO_ok _ _ _ (by omega)) rfl (by omega) (by omega) hlen2 rfl hFX hkeys (by omega) hfj (by assumption)
              · rw [hm] at hNS
                exact tailHit2 hNS hkey (by omega) (by omega) (by omega) (by omega) (tNs_bd d) (mkO_ok _ _ _ (by omega)) (mkO_ok _ _ _ (by omega)) rfl (by omega) (by omega) hlen2 rfl hFX hkeys (by omega) hfj hE hG (by assumption)
      · have hKl' : ((k : Int) == (Kn : Int)) = false := by rw [beq_eq_false_iff_ne]; omega
        have hFr := idsF_nil W2 0
        go_upto_region 10 with fail
        generalize W2 = X at how hF hbX hkbX habX hFr hbW2 ⊢
        -- world X, at region 10; hbX Below, hkbX, habX; hF : IdsF X va k .. gi f; hFr : IdsF X ra' rl .. gr fr
        obtain ⟨i0, hii, hzz0, hzz1, hzz2⟩ := info_parts Ybad.info31
        obtain ⟨X1, hmk1, hown1, hgr1⟩ := run_make_full (P := Ybad.prog) X X.heap.size 25 31 i0 _ 5 Ybad.underlying25 hii hzz0 hzz1 .i64 .i64 k (by rw [hzz2]; omega) (by unfold maxLen; omega) (Nat.le_refl _)
        have hK1 : Kp [] X X1 := Kp.nil.2 ((Below.refl _ X).grown hgr1 (Nat.le_refl _) (fun _ h => by cases h))
        have hF1 := hF.kp hK1 (by simp)
        go_upto_region 12 with fail
        refine law_loop1 (gi := gi) (f := f) (by omega) (fun h => by obtain ⟨h1, h2, cs, h3⟩ := hF1.hva h; exact ⟨h1, lt_of_heap h3, by have := (hF.hva h); obtain ⟨_, _, cs', h4⟩ := this; have := lt_of_heap h4; omega⟩) hF1.at_ hown1 ?_
        intro t29 t30 t94 t95 t96 t97 t98 t99 t100 t101 t102 t103 t104 t105 t106 t107 t108 X2 hown2 hkk2
        have hs1 := hK1.size
        obtain ⟨rcs, hrcs⟩ := own_heap hown2
        have hlt1 := lt_of_heap hrcs
        have hs2 := hkk2.size
        have hK2 : Kp [] X X2 := hK1.then hkk2 (by simp)
        clear hmk1 hgr1 hF1 hown1
        obtain ⟨X3, hmk3, hown3, hgr3⟩ := run_make_full (P := Ybad.prog) X2 X2.heap.size 25 31 i0 _ 5 Ybad.underlying25 hii hzz0 hzz1 .i64 .i64 0 (by rw [hzz2]; omega) (by unfold maxLen; omega) (Nat.le_refl _)
        have hK3 : Kp [] X2 X3 := Kp.nil.2 ((Below.refl _ X2).grown hgr3 (Nat.le_refl _) (fun _ h => by cases h))
        have hFr3 := (hFr.kp hK2 (by simp)).kp hK3 (by simp)
        change (Instr.makeSlice 25 (.int .i64 0) (.int .i64 0)).run Ybad.prog X2 = _ at hmk3
        go_upto_region 18 with fail
        refine law_loop2 (gi := 0) (f := fun _ => 0) (by omega) (fun h => by obtain ⟨h1, h2, cs, h3⟩ := hFr3.hva h; exact ⟨h1, lt_of_heap h3, by obtain ⟨_, _, cs', h4⟩ := (hFr.kp hK2 (by simp)).hva h; have := lt_of_heap h4; omega⟩) hFr3.at_ hown3 ?_
        intro t32 t33 t114 t115 t116 t117 t118 t119 t120 t121 t122 t123 t124 t125 t126 t127 t128 t129 t130 X4 hown4 hkk4
        have hs3 := hK3.size
        obtain ⟨rrcs, hrrcs⟩ := own_heap hown4
        have hlt4 := lt_of_heap hrrcs
        have hK4 : Kp [] X2 X4 := hK3.then hkk4 (by simp)
        have hrow1 : X4.ownsRow X.heap.size 31 5 (.slice (some ⟨X.heap.size, 0, none⟩) k k) k (recCells (mkO 0 f k)) := own_of_block hown2 (hK4.block _ hlt1 (by simp))
        clear hmk3 hgr3 hFr3 hown3 hown2
        have hs4 := hK4.size
        -- the bucket
        have hrA := fun (Y : World) (h : Below X4.heap.size X4 Y) => rec_at_own (X := Y) hrow1 (h.block _ (by omega))
        have hrB := fun (Y : World) (h : Below X4.heap.size X4 Y) => rec_at_own (X := Y) hown4 (h.block _ hlt4)
        have E1 := hide (entries_all X.heap.size k (mkO 0 f k) (X4.alloc (.cells #[.int .u8 0] 5)) (by omega) (mkO_length _ _ _) (by simp; omega) (hrA _ (below_al (Below.refl _ _) _)))
        go_upto_region 23 with fail
        refine E1.out.mono ?_
        rintro e X5 ⟨va5, vc5, es, rfl, ho5, he5, hi5, hb5⟩
        have hb45 : Below X4.heap.size X4 X5 := (below_al (Below.refl _ _) _).trans (hb5.mono (by simp))
        have E2 := hide (entries_all X2.heap.size 0 (mkO 100 (fun _ => 0) 0) X5 (by omega) (mkO_length _ _ _) (by have := hb45.size; omega) (hrB _ hb45))
        go_upto_region 23 with fail
        refine E2.out.mono ?_
        rintro e X6 ⟨va6, vc6, er, rfl, ho6, he6, hi6, hb6⟩
        go_upto_region 29 with fail
        obtain ⟨b0, b1, b2, b3, b4, b5, b6, hb67, hs7⟩ := alloc7 X6 (.cells #[.int .i32 0, .int .u32 0, .int .u32 0, .int .u32 0, .int .i32 0, .int .i32 0, .int .u64 0, .int .i64 0, .slice (some ⟨X4.heap.size, 0, none⟩) 1 1, .slice va5 k vc5, .slice va6 0 vc6, .pointer none] 56) (.cells #[.int .u8 (mm % 3)] 5) (.cells #[.int .i64 0] 3) (.cells #[.slice none 0 0, .int .u64 0, .nilIface] 58) (.cells #[.slice none 0 0, .int .u64 0, .nilIface] 58) (.cells #[.int .i64 0] 3) (.cells #[.int .i64 (Kn : Int), .int .i64 (Pn : Int), .int .i64 0, .int .i64 (Rn : Int), .nilFunc, arbV 16 (X6.heap.size + 1 + 1) (X6.heap.size + 1 + 1 + 1) (X6.heap.size + 1 + 1 + 1 + 1) (X6.heap.size + 1) w.heap.size (w.heap.size + 1), .nilFunc, .nilFunc, .nilFunc, .nilFunc] 68)
        unfold arbV at b0 b1 b2 b3 b4 b5 b6 hb67 hs7
        generalize ((((((X6.alloc (.cells #[.int .i32 0, .int .u32 0, .int .u32 0, .int .u32 0, .int .i32 0, .int .i32 0, .int .u64 0, .int .i64 0, .slice (some ⟨X4.heap.size, 0, none⟩) 1 1, .slice va5 k vc5, .slice va6 0 vc6, .pointer none] 56)).alloc (.cells #[.int .u8 (mm % 3)] 5)).alloc (.cells #[.int .i64 0] 3)).alloc (.cells #[.slice none 0 0, .int .u64 0, .nilIface] 58)).alloc (.cells #[.slice none 0 0, .int .u64 0, .nilIface] 58)).alloc (.cells #[.int .i64 0] 3)).alloc (.cells #[.int .i64 (Kn : Int), .int .i64 (Pn : Int), .int .i64 0, .int .i64 (Rn : Int), .nilFunc, .func (.func 16) #[] #[.pointer (some ⟨X6.heap.size + 1 + 1, 0, none⟩), .pointer (some ⟨X6.heap.size + 1 + 1 + 1, 0, none⟩), .pointer (some ⟨X6.heap.size + 1 + 1 + 1 + 1, 0, none⟩), .pointer (some ⟨X6.heap.size + 1, 0, none⟩), .pointer (some ⟨w.heap.size, 0, none⟩), .pointer (some ⟨w.heap.size + 1, 0, none⟩)], .nilFunc, .nilFunc, .nilFunc, .nilFunc] 68) = X7 at b0 b1 b2 b3 b4 b5 b6 hb67 hs7 ⊢
        have o0 := cell_of_heap b6
        have of := free_of_heap b6
        simp at o0
        cases ping
        · go_upto_region 32 with fail
          obtain ⟨e1, hb89, hs9⟩ := alloc2 X7 (.cells #[.int .u8 255] 5) (.cells #[.slice (some ⟨X6.heap.size + 1 + 1 + 1 + 1 + 1 + 1 + 1, 0, none⟩) 1 1, .int .i64 (Kn : Int), .int .i64 (Pn : Int), .int .i64 0, .int .i64 (Rn : Int), .nilFunc, .func (.func 16) #[] #[.pointer (some ⟨X6.heap.size + 1 + 1, 0, none⟩), .pointer (some ⟨X6.heap.size + 1 + 1 + 1, 0, none⟩), .pointer (some ⟨X6.heap.size + 1 + 1 + 1 + 1, 0, none⟩), .pointer (some ⟨X6.heap.size + 1, 0, none⟩), .pointer (some ⟨w.heap.size, 0, none⟩), .pointer (some ⟨w.heap.size + 1, 0, none⟩)], .nilFunc, .nilFunc, .nilFunc, .nilFunc, .int .u64 0, .int .i64 0, .pointer none, .int .i32 0, .int .u32 0, .int .u32 0, .int .u32 0, .int .i32 0, .int .i32 0, .int .i32 0, .int .u32 0, .int .u32 0, .int .u32 0, .int .i32 0, .int .i32 0, .int .u64 0, .int .i64 0, .slice none 0 0, .slice none 0 0, .slice none 0 0, .pointer none, .int .i64 (k : Int)] 70)
          generalize hX9 : (World.alloc (World.alloc X7 (.cells #[.int .u8 255] 5)) (.cells #[.slice (some ⟨X6.heap.size + 1 + 1 + 1 + 1 + 1 + 1 + 1, 0, none⟩) 1 1, .int .i64 (Kn : Int), .int .i64 (Pn : Int), .int .i64 0, .int .i64 (Rn : Int), .nilFunc, .func (.func 16) #[] #[.pointer (some ⟨X6.heap.size + 1 + 1, 0, none⟩), .pointer (some ⟨X6.heap.size + 1 + 1 + 1, 0, none⟩), .pointer (some ⟨X6.heap.size + 1 + 1 + 1 + 1, 0, none⟩), .pointer (some ⟨X6.heap.size + 1, 0, none⟩), .pointer (some ⟨w.heap.size, 0, none⟩), .pointer (some ⟨w.heap.size + 1, 0, none⟩)], .nilFunc, .nilFunc, .nilFunc, .nilFunc, .int .u64 0, .int .i64 0, .pointer none, .int .i32 0, .int .u32 0, .int .u32 0, .int .u32 0, .int .i32 0, .int .i32 0, .int .i32 0, .int .u32 0, .int .u32 0, .int .u32 0, .int .i32 0, .int .i32 0, .int .u64 0, .int .i64 0, .slice none 0 0, .slice none 0 0, .slice none 0 0, .pointer none, .int .i64 (k : Int)] 70)) = X9 at e1 hb89 hs9 ⊢
          have hk8 : Kp [X6.heap.size + 1 + 1 + 1 + 1 + 1 + 1] X7 X7 := Kp.refl _ _
          have hs8 : (X7).heap.size = X7.heap.size := rfl
          have hT9 : TabAt X9 (X6.heap.size + 1 + 1 + 1 + 1 + 1 + 1 + 1 + 1) Kn (Pn : Int) Rn (arbV 16 (X6.heap.size + 1 + 1) (X6.heap.size + 1 + 1 + 1) (X6.heap.size + 1 + 1 + 1 + 1) (X6.heap.size + 1) w.heap.size (w.heap.size + 1)) (onpV false (X6.heap.size + 1 + 1 + 1 + 1 + 1)) (k : Int) := ⟨_, by rw [hs8, hs7] at e1; exact e1, rfl, rfl, rfl, rfl, rfl, rfl⟩
          have hk79 : Kp [X6.heap.size + 1 + 1 + 1 + 1 + 1 + 1] X7 X9 := hk8.ofBelow hb89
          clear hX9 hk8 e1 hb89 o0 of b6
          rw [hs8, hs7] at hs9
          clear hs8
          have hb69 : Below X6.heap.size X6 X9 := hb67.trans (hk79.below (by omega) (by simp; omega))
          have hsX4 := (hK2.trans hK4).size
          have hs45 := hb45.size
          have hs56 := hb6.size
          have hkb9 : X9.cell? ⟨w.heap.size, 0, none⟩ = some (.int .u8 (key : Int)) := (cell_of_heap ((hb69.block _ (by have := lt_of_heap hkbX; omega)).trans ((hb6.block _ (by have := lt_of_heap hkbX; omega)).trans ((hb45.block _ (by have := lt_of_heap hkbX; omega)).trans (((hK2.trans hK4).block _ (lt_of_heap hkbX) (by simp)).trans hkbX)))) 0).trans rfl
          have hkbl := lt_of_heap hkbX
          go_upto_region 33 with fail
          refine (add_any d _ hd1 hd2).mono ?_
          rintro e X10 ⟨rfl, hb910⟩
          unfold tmV
          have hkb10 := (World.cell?_of_block (w := X9) (a := ⟨w.heap.size, 0, none⟩) (hb910.block w.heap.size (by omega))).trans hkb9
          have hkl10 : w.heap.size < X10.heap.size := by have := hb910.size; omega
          go_upto_region 35 with fail
          obtain ⟨f0, f1, f2, hb1011, hs11⟩ := place_three X10 (.cells #[.int .u64 (tNs d), .int .i64 (tSec d), .pointer none] 28) (.cells #[.int .u8 (key : Int)] 5) (.cells #[.slice (some ⟨X10.heap.size + 1, 0, none⟩) 1 1, .int .u64 xclk, .nilIface] 58)
          generalize ((X10.alloc (.cells #[.int .u64 (tNs d), .int .i64 (tSec d), .pointer none] 28)).alloc (.cells #[.int .u8 (key : Int)] 5)).alloc (.cells #[.slice (some ⟨X10.heap.size + 1, 0, none⟩) 1 1, .int .u64 xclk, .nilIface] 58) = XX at f0 f1 f2 hb1011 hs11 ⊢
          have h910 : Below X9.heap.size X9 XX := hb910.trans (hb1011.mono hb910.size)
          have h7 : Kp [X6.heap.size + 1 + 1 + 1 + 1 + 1 + 1] X7 XX := hk79.ofBelow h910
          have h6 : Below X6.heap.size X6 XX := hb69.trans (h910.mono (by omega))
          have h5 : Below X5.heap.size X5 XX := hb6.trans (h6.mono hs56)
          have h4 : Below X4.heap.size X4 XX := hb45.trans (h5.mono hs45)
          have h0 : Below X.heap.size X XX := (Kp.nil.1 (hK2.trans hK4)).trans (h4.mono hsX4)
          have hs10 := hb910.size
          have hbal : (X4.alloc (.cells #[.int .u8 0] 5)).heap.size = X4.heap.size + 1 := by simp
          have hNS : NS w XX w.heap.size (w.heap.size + 1) (X6.heap.size + 1) (X6.heap.size + 1 + 1) (X6.heap.size + 1 + 1 + 1) (X6.heap.size + 1 + 1 + 1 + 1) (X6.heap.size + 1 + 1 + 1 + 1 + 1) (X6.heap.size + 1 + 1 + 1 + 1 + 1 + 1 + 1 + 1) X6.heap.size X10.heap.size (X10.heap.size + 1 + 1) (X10.heap.size + 1) X.heap.size X2.heap.size key aClk (mm % 3) xclk (tSec d) (tNs d) Kn Pn Rn false k 0 va5 va6 vc5 vc6 (X4.heap.size + 1) X5.heap.size es er (mkO 0 f k) (mkO 100 (fun _ => 0) 0) := by
            refine ⟨hbX.trans (h0.mono hbX.size), by omega, ⟨(h7.block _ (lt_of_heap b2) (by simp)).trans b2, ⟨_, _, _, (h7.block _ (lt_of_heap b3) (by simp)).trans b3⟩, ⟨_, _, _, (h7.block _ (lt_of_heap b4) (by simp)).trans b4⟩, (h7.block _ (lt_of_heap b1) (by simp)).trans b1, (h0.block _ (lt_of_heap hkbX)).trans hkbX, (h0.block _ (lt_of_heap habX)).trans habX, by omega⟩, hT9.of_block (h910.block _ (by omega)), ⟨_, (h7.block _ (lt_of_heap b0) (by simp; omega)).trans b0, rfl, rfl, rfl⟩, own_block_of (by rw [← hbal]; exact ho5) (fun q hq => h5.block q (low_of ho5 q hq)), fun e he => (hi5 e he).1.of_block (h5.block _ (hi5 e he).1.lt), he5, mkO_length _ _ _, own_block_of ho6 (fun q hq => h6.block q (low_of ho6 q hq)), fun e he => (hi6 e he).1.of_block (h6.block _ (hi6 e he).1.lt), he6, mkO_length _ _ _, ?_, rec_at_own hrow1 (h4.block _ (by omega)), ?_, rec_at_own hown4 (h4.block _ hlt4), (h7.block _ (lt_of_heap b5) (by simp)).trans b5, by omega, f0, f2, by omega, f1, by omega, ?_⟩
            · obtain ⟨cs, hc⟩ := own_heap hrow1
              exact ⟨cs, (h4.block _ (lt_of_heap hc)).trans hc⟩
            · obtain ⟨cs, hc⟩ := own_heap hown4
              exact ⟨cs, (h4.block _ (lt_of_heap hc)).trans hc⟩
            · intro g g' hg hg'
              have h1 := low_of ho5 g hg
              have h2 := own_ge ho6 g' hg'
              omega
          exact tailB hNS hkey (by omega) (by omega) (by omega) (by omega) (tNs_bd d) (mkO_ok _ _ _ (by omega)) (mkO_ok _ _ _ (by omega)) (by omega) rfl (by assumption)
        · go_upto_region 32 with fail
          obtain ⟨e1, hb89, hs9⟩ := alloc2 (X7.setCell ⟨X6.heap.size + 1 + 1 + 1 + 1 + 1 + 1, 9, none⟩ (.func (.func 17) #[] #[.pointer (some ⟨X6.heap.size + 1 + 1 + 1 + 1 + 1, 0, none⟩)])) (.cells #[.int .u8 255] 5) (.cells #[.slice (some ⟨X6.heap.size + 1 + 1 + 1 + 1 + 1 + 1 + 1, 0, none⟩) 1 1, .int .i64 (Kn : Int), .int .i64 (Pn : Int), .int .i64 0, .int .i64 (Rn : Int), .nilFunc, .func (.func 16) #[] #[.pointer (some ⟨X6.heap.size + 1 + 1, 0, none⟩), .pointer (some ⟨X6.heap.size + 1 + 1 + 1, 0, none⟩), .pointer (some ⟨X6.heap.size + 1 + 1 + 1 + 1, 0, none⟩), .pointer (some ⟨X6.heap.size + 1, 0, none⟩), .pointer (some ⟨w.heap.size, 0, none⟩), .pointer (some ⟨w.heap.size + 1, 0, none⟩)], .nilFunc, .nilFunc, .nilFunc, .func (.func 17) #[] #[.pointer (some ⟨X6.heap.size + 1 + 1 + 1 + 1 + 1, 0, none⟩)], .int .u64 0, .int .i64 0, .pointer none, .int .i32 0, .int .u32 0, .int .u32 0, .int .u32 0, .int .i32 0, .int .i32 0, .int .i32 0, .int .u32 0, .int .u32 0, .int .u32 0, .int .i32 0, .int .i32 0, .int .u64 0, .int .i64 0, .slice none 0 0, .slice none 0 0, .slice none 0 0, .pointer none, .int .i64 (k : Int)] 70)
          generalize hX9 : (World.alloc (World.alloc (X7.setCell ⟨X6.heap.size + 1 + 1 + 1 + 1 + 1 + 1, 9, none⟩ (.func (.func 17) #[] #[.pointer (some ⟨X6.heap.size + 1 + 1 + 1 + 1 + 1, 0, none⟩)])) (.cells #[.int .u8 255] 5)) (.cells #[.slice (some ⟨X6.heap.size + 1 + 1 + 1 + 1 + 1 + 1 + 1, 0, none⟩) 1 1, .int .i64 (Kn : Int), .int .i64 (Pn : Int), .int .i64 0, .int .i64 (Rn : Int), .nilFunc, .func (.func 16) #[] #[.pointer (some ⟨X6.heap.size + 1 + 1, 0, none⟩), .pointer (some ⟨X6.heap.size + 1 + 1 + 1, 0, none⟩), .pointer (some ⟨X6.heap.size + 1 + 1 + 1 + 1, 0, none⟩), .pointer (some ⟨X6.heap.size + 1, 0, none⟩), .pointer (some ⟨w.heap.size, 0, none⟩), .pointer (some ⟨w.heap.size + 1, 0, none⟩)], .nilFunc, .nilFunc, .nilFunc, .func (.func 17) #[] #[.pointer (some ⟨X6.heap.size + 1 + 1 + 1 + 1 + 1, 0, none⟩)], .int .u64 0, .int .i64 0, .pointer none, .int .i32 0, .int .u32 0, .int .u32 0, .int .u32 0, .int .i32 0, .int .i32 0, .int .i32 0, .int .u32 0, .int .u32 0, .int .u32 0, .int .i32 0, .int .i32 0, .int .u64 0, .int .i64 0, .slice none 0 0, .slice none 0 0, .slice none 0 0, .pointer none, .int .i64 (k : Int)] 70)) = X9 at e1 hb89 hs9 ⊢
          have hk8 : Kp [X6.heap.size + 1 + 1 + 1 + 1 + 1 + 1] X7 (X7.setCell ⟨X6.heap.size + 1 + 1 + 1 + 1 + 1 + 1, 9, none⟩ (.func (.func 17) #[] #[.pointer (some ⟨X6.heap.size + 1 + 1 + 1 + 1 + 1, 0, none⟩)])) := (Kp.refl _ _).setCell (by simp) _
          have hs8 : ((X7.setCell ⟨X6.heap.size + 1 + 1 + 1 + 1 + 1 + 1, 9, none⟩ (.func (.func 17) #[] #[.pointer (some ⟨X6.heap.size + 1 + 1 + 1 + 1 + 1, 0, none⟩)]))).heap.size = X7.heap.size := size_setCell _ _ _
          have hT9 : TabAt X9 (X6.heap.size + 1 + 1 + 1 + 1 + 1 + 1 + 1 + 1) Kn (Pn : Int) Rn (arbV 16 (X6.heap.size + 1 + 1) (X6.heap.size + 1 + 1 + 1) (X6.heap.size + 1 + 1 + 1 + 1) (X6.heap.size + 1) w.heap.size (w.heap.size + 1)) (onpV true (X6.heap.size + 1 + 1 + 1 + 1 + 1)) (k : Int) := ⟨_, by rw [hs8, hs7] at e1; exact e1, rfl, rfl, rfl, rfl, rfl, rfl⟩
          have hk79 : Kp [X6.heap.size + 1 + 1 + 1 + 1 + 1 + 1] X7 X9 := hk8.ofBelow hb89
          clear hX9 hk8 e1 hb89 o0 of b6
          rw [hs8, hs7] at hs9
          clear hs8
          have hb69 : Below X6.heap.size X6 X9 := hb67.trans (hk79.below (by omega) (by simp; omega))
          have hsX4 := (hK2.trans hK4).size
          have hs45 := hb45.size
          have hs56 := hb6.size
          have hkb9 : X9.cell? ⟨w.heap.size, 0, none⟩ = some (.int .u8 (key : Int)) := (cell_of_heap ((hb69.block _ (by have := lt_of_heap hkbX; omega)).trans ((hb6.block _ (by have := lt_of_heap hkbX; omega)).trans ((hb45.block _ (by have := lt_of_heap hkbX; omega)).trans (((hK2.trans hK4).block _ (lt_of_heap hkbX) (by simp)).trans hkbX)))) 0).trans rfl
          have hkbl := lt_of_heap hkbX
          go_upto_region 33 with fail
          refine (add_any d _ hd1 hd2).mono ?_
          rintro e X10 ⟨rfl, hb910⟩
          unfold tmV
          have hkb10 := (World.cell?_of_block (w := X9) (a := ⟨w.heap.size, 0, none⟩) (hb910.block w.heap.size (by omega))).trans hkb9
          have hkl10 : w.heap.size < X10.heap.size := by have := hb910.size; omega
          go_upto_region 35 with fail
          obtain ⟨f0, f1, f2, hb1011, hs11⟩ := place_three X10 (.cells #[.int .u64 (tNs d), .int .i64 (tSec d), .pointer none] 28) (.cells #[.int .u8 (key : Int)] 5) (.cells #[.slice (some ⟨X10.heap.size + 1, 0, none⟩) 1 1, .int .u64 xclk, .nilIface] 58)
          generalize ((X10.alloc (.cells #[.int .u64 (tNs d), .int .i64 (tSec d), .pointer none] 28)).alloc (.cells #[.int .u8 (key : Int)] 5)).alloc (.cells #[.slice (some ⟨X10.heap.size + 1, 0, none⟩) 1 1, .int .u64 xclk, .nilIface] 58) = XX at f0 f1 f2 hb1011 hs11 ⊢
          have h910 : Below X9.heap.size X9 XX := hb910.trans (hb1011.mono hb910.size)
          have h7 : Kp [X6.heap.size + 1 + 1 + 1 + 1 + 1 + 1] X7 XX := hk79.ofBelow h910
          have h6 : Below X6.heap.size X6 XX := hb69.trans (h910.mono (by omega))
          have h5 : Below X5.heap.size X5 XX := hb6.trans (h6.mono hs56)
          have h4 : Below X4.heap.size X4 XX := hb45.trans (h5.mono hs45)
          have h0 : Below X.heap.size X XX := (Kp.nil.1 (hK2.trans hK4)).trans (h4.mono hsX4)
          have hs10 := hb910.size
          have hbal : (X4.alloc (.cells #[.int .u8 0] 5)).heap.size = X4.heap.size + 1 := by simp
          have hNS : NS w XX w.heap.size (w.heap.size + 1) (X6.heap.size + 1) (X6.heap.size + 1 + 1) (X6.heap.size + 1 + 1 + 1) (X6.heap.size + 1 + 1 + 1 + 1) (X6.heap.size + 1 + 1 + 1 + 1 + 1) (X6.heap.size + 1 + 1 + 1 + 1 + 1 + 1 + 1 + 1) X6.heap.size X10.heap.size (X10.heap.size + 1 + 1) (X10.heap.size + 1) X.heap.size X2.heap.size key aClk (mm % 3) xclk (tSec d) (tNs d) Kn Pn Rn true k 0 va5 va6 vc5 vc6 (X4.heap.size + 1) X5.heap.size es er (mkO 0 f k) (mkO 100 (fun _ => 0) 0) := by
            refine ⟨hbX.trans (h0.mono hbX.size), by omega, ⟨(h7.block _ (lt_of_heap b2) (by simp)).trans b2, ⟨_, _, _, (h7.block _ (lt_of_heap b3) (by simp)).trans b3⟩, ⟨_, _, _, (h7.block _ (lt_of_heap b4) (by simp)).trans b4⟩, (h7.block _ (lt_of_heap b1) (by simp)).trans b1, (h0.block _ (lt_of_heap hkbX)).trans hkbX, (h0.block _ (lt_of_heap habX)).trans habX, by omega⟩, hT9.of_block (h910.block _ (by omega)), ⟨_, (h7.block _ (lt_of_heap b0) (by simp; omega)).trans b0, rfl, rfl, rfl⟩, own_block_of (by rw [← hbal]; exact ho5) (fun q hq => h5.block q (low_of ho5 q hq)), fun e he => (hi5 e he).1.of_block (h5.block _ (hi5 e he).1.lt), he5, mkO_length _ _ _, own_block_of ho6 (fun q hq => h6.block q (low_of ho6 q hq)), fun e he => (hi6 e he).1.of_block (h6.block _ (hi6 e he).1.lt), he6, mkO_length _ _ _, ?_, rec_at_own hrow1 (h4.block _ (by omega)), ?_, rec_at_own hown4 (h4.block _ hlt4), (h7.block _ (lt_of_heap b5) (by simp)).trans b5, by omega, f0, f2, by omega, f1, by omega, ?_⟩
            · obtain ⟨cs, hc⟩ := own_heap hrow1
              exact ⟨cs, (h4.block _ (lt_of_heap hc)).trans hc⟩
            · obtain ⟨cs, hc⟩ := own_heap hown4
              exact ⟨cs, (h4.block _ (lt_of_heap hc)).trans hc⟩
            · intro g g' hg hg'
              have h1 := low_of ho5 g hg
              have h2 := own_ge ho6 g' hg'
              omega
          exact tailB hNS hkey (by omega) (by omega) (by omega) (by omega) (tNs_bd d) (mkO_ok _ _ _ (by omega)) (mkO_ok _ _ _ (by omega)) (by omega) rfl (by assumption)
    · have hn1 : ¬ ((1024 : Int) < (n : Int)) := by omega
      have hn21 : (1024 : Int) < (n2 : Int) := by omega
      have hn' : ¬ (1024 < n) := by omega
      have hn2' : (1024 < n2) := by omega
      go_enter Ybad.func4, Ybad.ntmps4
      go_wp2
      go_ret
      exact ⟨rfl, below_al (below_al (Below.refl _ _) _) _⟩
  · have hn1 : (1024 : Int) < (n : Int) := by omega
    have hn' : (1024 < n) := by omega
    go_enter Ybad.func4, Ybad.ntmps4
    go_wp2
    go_ret
    exact ⟨rfl, below_al (below_al (Below.refl _ _) _) _⟩

end Go.Proofs.YbulkagdqDoor

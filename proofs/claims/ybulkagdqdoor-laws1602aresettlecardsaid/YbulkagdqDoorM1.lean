import Derived.Test.YbulkagdqDoorR2
namespace Go.Proofs.YbulkagdqDoor
open Go.RowKit
set_option linter.unusedVariables false

set_option maxRecDepth 100000 in
set_option maxHeartbeats 12000000 in
theorem resettle_m1 (a : Option Addr) (n c : Nat) (zs : List Int) (x1 xclk aClk mm d : Int) (ea : Addr) (w : World) (hz : InBytes w a n zs) (hx0 : 0 ≤ x1) (hx1 : x1 ≤ 255) (hc0 : 0 ≤ xclk) (hc1 : xclk ≤ 18446744073709551615) (ha0 : 0 ≤ aClk) (ha1 : aClk ≤ 18446744073709551615) (hm0 : 0 ≤ mm) (hm1 : mm ≤ 255) (hmk : mm % 3 = 1)
    (hd1 : -9223372036854775808 ≤ d) (hd2 : d ≤ 9223372036854775807)
    (hE : w.cell? ⟨0, 0, none⟩ = some (.iface 142 (.pointer (some ea)))) (hG : w.cell? ⟨1, 0, none⟩ = some (.iface 129 (.agg #[.pointer (some ⟨2, 77, none⟩)]))) :
    Calls Ybad.prog 3 #[.slice a n c, .int .u8 x1, .int .u64 xclk, .int .u64 aClk, .int .u8 mm, .int .i64 d] w fun e w' => e = .returned (.bool true) ∧ Below w.heap.size w w' := by
  have HMK : Hid (mm % 3 = 1) := hmk
  clear hmk
  by_cases hn : n ≤ 1024
  · have hn' : ¬ (1024 < n) := by omega
    have hzA : InBytes (w.alloc (.cells #[.int .u64 aClk] 23)) a n zs := ⟨hz.len, hz.bd, fun h => by
      obtain ⟨b, off, h1, h2, h3⟩ := hz.at_ h
      exact ⟨b, off, h1, by simp; omega, fun i hi => by rw [World.cell?_alloc_past _ _ _ h2]; exact h3 i hi⟩⟩
    have hzN : InBytes (w.alloc (.cells #[.int .u64 aClk] 23)) none 0 [] := ⟨rfl, fun i => by simp, fun h => absurd h (Nat.lt_irrefl _)⟩
    go_enter Ybad.func3, Ybad.ntmps3
    go_upto_if 41 with (go_at_call 5; refine (distinct_any a n c zs none 0 0 [] 256 _ hzA hzN hn (by decide) (by decide)).mono ?_; rintro e w1 ⟨v, l, rfl, how, hbd, hnd, hlen, hB⟩; obtain ⟨va, vc, rfl⟩ := ownsRow_shape how)
    have hB0 : Below w.heap.size w w1 := ((below_al (Below.refl _ _) _).trans (hB.mono (by simp)))
    have hab : w1.heap[w.heap.size]? = some (.cells #[.int .u64 aClk] 23 (0, 0)) := (hB.block _ (by simp)).trans (heap_alloc_new' _ _)
    go_cut [13] (fun v13 wx => ∃ (gi k ci : Nat) (l : List Nat), v13 = .slice (some ⟨gi, 0, none⟩) k ci ∧ w.heap.size ≤ gi ∧ IdsAt wx gi k l ∧ Below w.heap.size w wx ∧ wx.heap[w.heap.size]? = some (.cells #[.int .u64 aClk] 23 (0, 0)))
    case first =>
      by_cases hl0 : l.length = 0
      · have hl0' : ((l.length : Int) == 0) = true := by simp [hl0]
        go_wp2
        go_meet
        case rel => exact ⟨_, 1, 1, [0], rfl, hB0.size, ids_one _, below_al hB0 _, by rw [Below.heap_alloc _ _ _ (lt_of_heap hab)]; exact hab⟩
      · have hl0' : ((l.length : Int) == 0) = false := by rw [beq_eq_false_iff_ne]; omega
        obtain ⟨gi, rfl, hgi, hI⟩ := ids_own how hbd hl0 hlen
        go_wp2
        go_meet
        case rel => exact ⟨gi, _, _, _, rfl, by simp at hgi; omega, hI, hB0, hab⟩
    case rest =>
      obtain ⟨gi, k, ci, l, rfl, hgi, hI, hB1, hab1⟩ := hcut
      obtain ⟨hg0, hlen2, hat, hbd2, hk0, hk1⟩ := hI
      obtain ⟨i, hi⟩ : ∃ i : Nat, x1 % (k : Int) = i := ⟨(x1 % (k : Int)).toNat, by rw [Int.toNat_of_nonneg (Int.emod_nonneg _ (by omega))]⟩
      have hik : i < k := by have := Int.emod_lt_of_pos x1 (b := (k : Int)) (by omega); omega
      have hk00 : ¬ (k = 0) := by omega
      have hk00' : ((k : Int) == 0) = false := by rw [beq_eq_false_iff_ne]; omega
      obtain ⟨f, hf⟩ : ∃ f : Nat → Nat, f = fun t => l.getD t 0 := ⟨_, rfl⟩
      have hat' : ∀ j, j < k → wc.cell? ⟨gi, j, none⟩ = some (.int .u8 (f j : Nat)) := fun j hj => by
        rw [hat j (by omega), hf]; simp [List.getD_eq_getElem?_getD, List.getElem?_eq_getElem (show j < l.length by omega)]
      have hfb : ∀ j, j < k → f j < 256 := fun j hj => by
        have := hbd2 j (by omega)
        rw [hf]; simpa [List.getD_eq_getElem?_getD, List.getElem?_eq_getElem (show j < l.length by omega)] using this
      clear hf hat hbd hbd2 how hz hzA hzN hnd hB hB0 hab hlen hlen2
      obtain ⟨i0, hii, hz0, hz1, hz2⟩ := info_parts Ybad.info31
      go_wp2_with (at_make; refine wpList_make_full _ rfl _ _ 25 rfl wc.heap.size 31 i0 _ 5 Ybad.underlying25 hii hz0 hz1 .i64 .i64 k k k rfl rfl rfl rfl (by rw [hz2]; omega) (by unfold maxLen; omega) (Nat.le_refl _) ?_)
      intro w2 hown hg
      go_wp2
      go_loopw [53] (fun q wr => ∃ (j : Nat) (R : List Value), j ≤ k ∧ q = .int .i64 j ∧ wr.ownsRow wc.heap.size 31 5 (.slice (some ⟨wc.heap.size, 0, none⟩) k k) k (recCells (mkRecs f j) ++ R) ∧ Below wc.heap.size wc wr) (fun q _ => k - (intOf q).toNat)
      case atStart => exact ⟨0, _, Nat.zero_le _, rfl, hown, (Below.refl _ _).grown hg (Nat.le_refl _) (fun _ h => by cases h)⟩
      case round =>
        obtain ⟨j, R, hj, rfl, how, hbl⟩ := hrel
        have hsz : wc.heap.size < wr.heap.size := by rcases own_heap how with ⟨cs, h⟩; exact lt_of_heap h
        by_cases hlt : j < k
        · have hxl := how.1
          rw [List.length_append, recCells_length, mkRecs_length] at hxl
          obtain ⟨r0, r1, r2, r3, r4, R', rfl⟩ : ∃ r0 r1 r2 r3 r4 R', R = r0 :: r1 :: r2 :: r3 :: r4 :: R' := by
            match R, hxl with
            | r0 :: r1 :: r2 :: r3 :: r4 :: R', _ => exact ⟨r0, r1, r2, r3, r4, R', rfl⟩
            | [], h => simp at h; omega
            | [_], h => simp at h; omega
            | [_, _], h => simp at h; omega
            | [_, _, _], h => simp at h; omega
            | [_, _, _, _], h => simp at h; omega
          have fz : ∀ t, wr.frozen? ⟨wc.heap.size, t, none⟩ = false := fun t => how.frozenAt t
          obtain ⟨z0, z1, z2, z3, z4⟩ := own_at5 how (m := j * 5) (by rw [recCells_length, mkRecs_length])
          have q0 := (hbl.cell (p := ⟨gi, j, none⟩) hg0).trans (hat' j hlt)
          have hj2 : (j : Int) < (k : Int) := by omega
          have ST := fun w1 (hb1 : Below wr.heap.size wr w1) => recs_step how hbl hsz hb1
          have HST := hide ST
          clear ST how hat' hfb
          go_wp2_with (go_at_call 6; refine (aat_any (j : Int) _ (by omega) (by omega)).mono ?_; rintro e w3 ⟨rfl, hb3⟩; unfold tmV; obtain ⟨hc3, hf3⟩ := bcell hb3; have z0' := (hc3 _ _ hsz).trans z0; have z1' := (hc3 _ _ hsz).trans z1; have z2' := (hc3 _ _ hsz).trans z2; have z3' := (hc3 _ _ hsz).trans z3; have z4' := (hc3 _ _ hsz).trans z4; have fz' := fun t => (hf3 wc.heap.size t hsz).trans (fz t); obtain ⟨h7, h8⟩ := unhide HST w3 hb3; have H7 := hide h7; have H8 := hide h8; clear h7 h8 hb3 hc3 hf3 HST)
          go_roundw
          case rel => exact ⟨j + 1, R', by omega, by go_num, unhide H7, unhide H8⟩
          case measure => simp [intOf]; omega
        · have hj2 : ¬ ((j : Int) < (k : Int)) := by omega
          obtain rfl : j = k := by omega
          have hxl := how.1
          rw [List.length_append, recCells_length, mkRecs_length] at hxl
          obtain rfl : R = [] := List.eq_nil_of_length_eq_zero (by omega)
          rw [List.append_nil] at how
          clear hj2
          have hj2 : ¬ ((j : Int) < (j : Int)) := by omega
          have hra : ∀ (X : World), Below wr.heap.size wr X → ∀ t (h : t < (mkRecs f j).length), RecAt X wc.heap.size (0 + t * 5) (mkRecs f j)[t] := fun X hX t h => by
            have := (recAt_own (R := []) (by rw [List.append_nil]; exact how) t h).of_block (hX.block _ hsz)
            rwa [Nat.zero_add]
          have HRA := hide hra
          have HOW := hide how
          have hq := (hbl.cell (p := ⟨gi, i, none⟩) hg0).trans (hat' i hik)
          have hgr : gi < wr.heap.size := by omega
          have hab2 := (hbl.block _ (lt_of_heap hab1)).trans hab1
          have hB2 : Below w.heap.size w wr := hB1.trans (hbl.mono hB1.size)
          have HH := hide (And.intro hab1 (And.intro hbl (And.intro hB1 (And.intro hab2 (And.intro hB2 (And.intro hE (And.intro hG hat')))))))
          have hki : (i : Int) < (j : Int) := by omega
          have hfb' := hfb i hik
          clear hra how hab1 hbl hB1 hat' hfb hab2 hB2 hE hG hown hg
          go_upto_region 14 with (go_at_call 7; refine (entries_any wc.heap.size 0 j j (mkRecs f j) _ (by omega) (by omega) (mkRecs_length _ _) (by simp; omega) (unhide HRA _ (below_al (Below.refl _ _) _))).mono ?_; rintro e w4 ⟨v4, es, rfl, ho4, he4, hi4, hB4⟩; obtain ⟨va4, vc4, rfl⟩ := ownsRow_shape ho4)
          obtain ⟨g, cap, cur, hv4, hg4, hh4, hcap, htk⟩ := own_form ho4 (by intro h; injection h; omega)
          injection hv4 with hv4 _ hv5
          subst hv4 hv5
          have hel : es.length = j := by have := congrArg List.length he4; simpa [mkRecs_length] using this
          obtain ⟨eI, heI⟩ : ∃ eI, es[i]'(by omega) = eI := ⟨_, rfl⟩
          have hea := entAt_own (R := []) (by rw [List.append_nil]; exact ho4) i (by omega)
          rw [heI] at hea
          obtain ⟨c0, c1, c2, c3, c4, c5⟩ := hea
          have hg4' : wr.heap.size + 1 ≤ g := by simpa using hg4
          have lg4 := lt_of_heap hh4
          have hB4' : Below wr.heap.size wr w4 := (below_al (Below.refl _ _) _).trans (hB4.mono (by simp))
          have hq4 := (hB4'.cell (p := ⟨gi, i, none⟩) hgr).trans hq
          have hgr4 : gi < w4.heap.size := by have := hB4'.size; omega
          have H4 := hide (And.intro ho4 (And.intro he4 (And.intro hi4 hB4')))
          obtain ⟨m, hm⟩ : ∃ m : Int, mm % 3 = m := ⟨_, rfl⟩
          have hmr : m = 0 ∨ m = 1 ∨ m = 2 := by omega
          clear hq ho4 he4 hi4 hB4 hB4' hh4 htk hcap hg4
          go_upto_region 21 with fail
          obtain ⟨ho4, he4, hi4, hB4'⟩ := H4.out
          obtain ⟨_, _, hB1, hab2, hB2, hE, hG, hat'⟩ := HH.out
          obtain ⟨hS, hWs⟩ := st8 (m := m) hB1.size hab2 hB2 (unhide HOW) ho4 he4 hi4 hB4' hfb' hg4' (.cells #[.int .u8 255] 5) (.slice (some ⟨w4.heap.size + 1 + 1 + 1 + 1 + 1 + 1, 0, none⟩) 1 1) (.slice (some ⟨wr.heap.size, 0, none⟩) 1 1) _ rfl
          have hkc := cell_of_heap hS.arb.h4 0
          simp at hkc
          have HS := hide hS
          have HHH := hide (And.intro hE hG)
          have hkl : w4.heap.size + 1 < w4.heap.size + 8 := by omega
          clear hS ho4 he4 hi4 hB4' H4 HH hB1 hab2 hB2 hE hG hat' HRA HOW hq4 hgr4 c0 c1 c2 c3 c4 c5
          generalize (((((((w4.alloc (.cells #[.int .i32 0, .int .u32 0, .int .u32 0, .int .u32 0, .int .i32 0, .int .i32 0, .int .u64 0, .int .i64 0, .slice (some ⟨wr.heap.size, 0, none⟩) 1 1, .slice (some ⟨g, 0, none⟩) j vc4, .slice none 0 0, .pointer none] 56)).alloc (.cells #[.int .u8 (f i : Nat)] 5)).alloc (.cells #[.int .u8 m] 5)).alloc (.cells #[.int .i64 0] 3)).alloc (.cells #[.slice none 0 0, .int .u64 0, .nilIface] 58)).alloc (.cells #[.slice none 0 0, .int .u64 0, .nilIface] 58)).alloc (.cells #[.int .u8 255] 5)).alloc (.cells #[.slice (some ⟨w4.heap.size + 1 + 1 + 1 + 1 + 1 + 1, 0, none⟩) 1 1, .int .i64 20, .int .i64 3, .int .i64 0, .int .i64 0, .nilFunc, .func (.func 8) #[] #[.pointer (some ⟨w4.heap.size + 1 + 1 + 1, 0, none⟩), .pointer (some ⟨w4.heap.size + 1 + 1 + 1 + 1, 0, none⟩), .pointer (some ⟨w4.heap.size + 1 + 1 + 1 + 1 + 1, 0, none⟩), .pointer (some ⟨w4.heap.size + 1 + 1, 0, none⟩), .pointer (some ⟨w4.heap.size + 1, 0, none⟩), .pointer (some ⟨w.heap.size, 0, none⟩)], .nilFunc, .nilFunc, .nilFunc, .nilFunc, .int .u64 0, .int .i64 0, .pointer none, .int .i32 0, .int .u32 0, .int .u32 0, .int .u32 0, .int .i32 0, .int .i32 0, .int .i32 0, .int .u32 0, .int .u32 0, .int .u32 0, .int .i32 0, .int .i32 0, .int .u64 0, .int .i64 0, .slice none 0 0, .slice none 0 0, .slice none 0 0, .pointer none, .int .i64 j] 70) = W at *
          rw [← hWs] at hkl
          go_upto_region 23 with (go_at_call 9; refine (add_any d _ hd1 hd2).mono ?_; rintro e w5 ⟨rfl, hB5⟩; unfold tmV; have hkc5 := (hB5.cell (p := ⟨w4.heap.size + 1, 0, none⟩) hkl).trans hkc; have hkl5 := Nat.lt_of_lt_of_le hkl hB5.size)
          have hSY := (unhide HS).kp (below_al (below_al (below_al hB5 (.cells #[.int .u64 (tNs d), .int .i64 (tSec d), .pointer none] 28)) (.cells #[.int .u8 (f i : Nat)] 5)) (.cells #[.slice (some ⟨w5.heap.size + 1, 0, none⟩) 1 1, .int .u64 xclk, .nilIface] 58))
          have hnb : (((w5.alloc (.cells #[.int .u64 (tNs d), .int .i64 (tSec d), .pointer none] 28)).alloc (.cells #[.int .u8 (f i : Nat)] 5)).alloc (.cells #[.slice (some ⟨w5.heap.size + 1, 0, none⟩) 1 1, .int .u64 xclk, .nilIface] 58)).heap[w5.heap.size]? = some (.cells #[.int .u64 (tNs d), .int .i64 (tSec d), .pointer none] 28 (0, 0)) := by
            rw [Below.heap_alloc _ _ _ (by simp; omega), Below.heap_alloc _ _ _ (by simp)]; exact heap_alloc_new' _ _
          have hxb : (((w5.alloc (.cells #[.int .u64 (tNs d), .int .i64 (tSec d), .pointer none] 28)).alloc (.cells #[.int .u8 (f i : Nat)] 5)).alloc (.cells #[.slice (some ⟨w5.heap.size + 1, 0, none⟩) 1 1, .int .u64 xclk, .nilIface] 58)).heap[w5.heap.size + 1]? = some (.cells #[.int .u8 (f i : Nat)] 5 (0, 0)) := by
            rw [Below.heap_alloc _ _ _ (by simp)]; exact heap_new_at _ _ _ (by simp)
          have hxs : (((w5.alloc (.cells #[.int .u64 (tNs d), .int .i64 (tSec d), .pointer none] 28)).alloc (.cells #[.int .u8 (f i : Nat)] 5)).alloc (.cells #[.slice (some ⟨w5.heap.size + 1, 0, none⟩) 1 1, .int .u64 xclk, .nilIface] 58)).heap[w5.heap.size + 1 + 1]? = some (.cells #[.slice (some ⟨w5.heap.size + 1, 0, none⟩) 1 1, .int .u64 xclk, .nilIface] 58 (0, 0)) := heap_new_at _ _ _ (by simp)
          clear HS hkc hkl hWs hB5 hkc5 hkl5 lg4 hg4' hgr hi hj hlt hxl hj2
          generalize (((w5.alloc (.cells #[.int .u64 (tNs d), .int .i64 (tSec d), .pointer none] 28)).alloc (.cells #[.int .u8 (f i : Nat)] 5)).alloc (.cells #[.slice (some ⟨w5.heap.size + 1, 0, none⟩) 1 1, .int .u64 xclk, .nilIface] 58)) = Y at *
          generalize w5.heap.size + 1 + 1 = xs at *
          generalize w5.heap.size + 1 = xb at *
          generalize w5.heap.size = nb at *
          generalize w4.heap.size + 1 + 1 + 1 + 1 + 1 + 1 + 1 = tb at *
          generalize w4.heap.size + 1 + 1 + 1 + 1 + 1 = gc at *
          generalize w4.heap.size + 1 + 1 + 1 + 1 = go at *
          generalize w4.heap.size + 1 + 1 + 1 = cb at *
          generalize w4.heap.size + 1 + 1 = mb at *
          generalize w4.heap.size + 1 = kb at *
          generalize w4.heap.size = bb at *
          generalize wc.heap.size = rb at *
          generalize wr.heap.size = base at *
          obtain ⟨y0, y1, y2⟩ : Y.cell? ⟨nb, 0, none⟩ = some (.int .u64 (tNs d)) ∧ Y.cell? ⟨nb, 1, none⟩ = some (.int .i64 (tSec d)) ∧ Y.cell? ⟨nb, 2, none⟩ = some (.pointer none) := ⟨by rw [cell_of_heap hnb]; rfl, by rw [cell_of_heap hnb]; rfl, by rw [cell_of_heap hnb]; rfl⟩
          obtain ⟨y3, y4, y5⟩ : Y.cell? ⟨xs, 0, none⟩ = some (.slice (some ⟨xb, 0, none⟩) 1 1) ∧ Y.cell? ⟨xs, 1, none⟩ = some (.int .u64 xclk) ∧ Y.cell? ⟨xs, 2, none⟩ = some .nilIface := ⟨by rw [cell_of_heap hxs]; rfl, by rw [cell_of_heap hxs]; rfl, by rw [cell_of_heap hxs]; rfl⟩
          have hNs := tNs_bd d
          have HY := hide (And.intro hSY (And.intro hnb hxb))
          have HN := hide hNs
          generalize tNs d = tn at *
          generalize tSec d = ts at *
          clear hSY hnb hxb hxs hNs
          rcases hmr with rfl | rfl | rfl
          · exact absurd (HMK.out.symm.trans hm) (by decide)
          · obtain ⟨hSY, hnb, hxb⟩ := HY.out
            have hil : i < (mkRecs f j).length := by rw [mkRecs_length]; exact hik
            have hkI : eI.toRec = (mkRecs f j)[i] := by
              have h1 : (es.map Ent.toRec)[i]? = (mkRecs f j)[i]? := by rw [hSY.es_]
              rw [List.getElem?_map, List.getElem?_eq_getElem (by omega), List.getElem?_eq_getElem hil, heI] at h1
              simpa using h1
            have hkI2 : eI.key = f i := by rw [mkRecs_get] at hkI; exact congrArg Rec.key hkI
            have hidI : IdAt Y eI.blk eI.cap (f i) := by
              have := hSY.ids eI (heI ▸ List.getElem_mem _)
              rwa [hkI2] at this
            have P := place8_1 tb bb 20 3 0 .nilFunc (.slice none 0 0) j 0 cb go gc mb kb w.heap.size 0 (f i) aClk xb 1 xclk ts tn g j vc4 base i es Y hSY.tab hSY.arb (by decide) (by decide) hSY.buk hSY.own hel hik (by omega) (by rw [heI]; exact hidI) hfb' (by decide) (by decide)
            simp only [heI] at P
            have HP := hide P
            clear P hSY hnb hxb hkI hkI2 hidI hil
            go_upto_region 24 with (go_at_call 10; refine (unhide HP).mono ?_; rintro e w6 ⟨rfl, e5, e6, e7, e8⟩; unfold outUpd)
            obtain ⟨hSY, hnb, hxb⟩ := HY.out
            obtain ⟨ccb, go0, go1, gc0, gc1, ckb, ceb, cxb, ctb, cmb, cab, cn0, cn1, cn2, ⟨l1, l2, l3, l4, l5, l6, l7, l8, l9, l10, l11⟩, ids, recs, hclk, hkey, hbel⟩ := mid hSY hel hik heI hnb hxb e5 (e6.mono (by simp)) (.cells #[.slice (some ⟨eI.blk, 0, none⟩) 1 eI.cap, .int .u64 aClk, .nilIface, .bool false, .bool true, .slice (some ⟨eI.blk, 0, none⟩) 1 eI.cap, .int .u64 eI.clk, .nilIface, .slice none 0 0] 75)
            have ho := heap_alloc_new' w6 (.cells #[.slice (some ⟨eI.blk, 0, none⟩) 1 eI.cap, .int .u64 aClk, .nilIface, .bool false, .bool true, .slice (some ⟨eI.blk, 0, none⟩) 1 eI.cap, .int .u64 eI.clk, .nilIface, .slice none 0 0] 75)
            obtain ⟨bs, hb1, hb2, hb3, hb4⟩ := e8.at_
            have hbX := (Below.heap_alloc w6 (.cells #[.slice (some ⟨eI.blk, 0, none⟩) 1 eI.cap, .int .u64 aClk, .nilIface, .bool false, .bool true, .slice (some ⟨eI.blk, 0, none⟩) 1 eI.cap, .int .u64 eI.clk, .nilIface, .slice none 0 0] 75) _ (lt_of_heap hb1)).trans hb1
            have how6 := e7.alloc (.cells #[.slice (some ⟨eI.blk, 0, none⟩) 1 eI.cap, .int .u64 aClk, .nilIface, .bool false, .bool true, .slice (some ⟨eI.blk, 0, none⟩) 1 eI.cap, .int .u64 eI.clk, .nilIface, .slice none 0 0] 75)
            have hes := hSY.es_
            clear hSY hnb hxb e5 e6 e7 e8 HP HY hb1
            generalize (w6.alloc (.cells #[.slice (some ⟨eI.blk, 0, none⟩) 1 eI.cap, .int .u64 aClk, .nilIface, .bool false, .bool true, .slice (some ⟨eI.blk, 0, none⟩) 1 eI.cap, .int .u64 eI.clk, .nilIface, .slice none 0 0] 75)) = X at *
            obtain ⟨o0, o1, o3, o4, o5, o6, o8⟩ : X.cell? ⟨w6.heap.size, 0, none⟩ = some (.slice (some ⟨eI.blk, 0, none⟩) 1 eI.cap) ∧ X.cell? ⟨w6.heap.size, 1, none⟩ = some (.int .u64 aClk) ∧ X.cell? ⟨w6.heap.size, 3, none⟩ = some (.bool false) ∧ X.cell? ⟨w6.heap.size, 4, none⟩ = some (.bool true) ∧ X.cell? ⟨w6.heap.size, 5, none⟩ = some (.slice (some ⟨eI.blk, 0, none⟩) 1 eI.cap) ∧ X.cell? ⟨w6.heap.size, 6, none⟩ = some (.int .u64 i) ∧ X.cell? ⟨w6.heap.size, 8, none⟩ = some (.slice none 0 0) := ⟨by rw [cell_of_heap ho]; rfl, by rw [cell_of_heap ho]; rfl, by rw [cell_of_heap ho]; rfl, by rw [cell_of_heap ho]; rfl, by rw [cell_of_heap ho]; rfl, by rw [cell_of_heap ho, hclk]; rfl, by rw [cell_of_heap ho]; rfl⟩
            have b9 := (cell_of_heap hbX 9).trans hb3
            have b6 : X.cell? ⟨bb, 6, none⟩ = some (.int .u64 1) := (cell_of_heap hbX 6).trans hb2
            have lo := lt_of_heap ho
            have lbb := lt_of_heap hbX
            have HG := hide (And.intro how6 (And.intro ids (And.intro recs (And.intro hes (And.intro hclk (And.intro hkey hbel))))))
            clear how6 ids recs hes hbel ho hbX hb2 hb3 hb4 HHH hclk hkey
            have l1' : cb < X.heap.size + 1 := by omega
            have l2' : go < X.heap.size + 1 := by omega
            have l3' : gc < X.heap.size + 1 := by omega
            have l4' : kb < X.heap.size + 1 := by omega
            have l5' : eI.blk < X.heap.size + 1 := by omega
            have l6' : xb < X.heap.size + 1 := by omega
            have l7' : tb < X.heap.size + 1 := by omega
            have l8' : mb < X.heap.size + 1 := by omega
            have l9' : w.heap.size < X.heap.size + 1 := by omega
            have lo' : w6.heap.size < X.heap.size + 1 := by omega
            have lbb' : bb < X.heap.size + 1 := by omega
            have l4'' : kb < X.heap.size + 1 + 1 := by omega
            have l9'' : w.heap.size < X.heap.size + 1 + 1 := by omega
            have lo'' : w6.heap.size < X.heap.size + 1 + 1 := by omega
            have l4''' : kb < X.heap.size + 1 + 1 + 1 := by omega
            have lo''' : w6.heap.size < X.heap.size + 1 + 1 + 1 := by omega
            go_upto_region 41 with (go_at_call 11; refine (beq_new _ _ _ (f i) _ (by simp) hfb' (by first | (rw [World.cell?_alloc_past _ _ _ l6]; rw [cxb]) | (rw [ceb]) | (rw [World.cell?_alloc_past _ _ _ (by simp; omega), World.cell?_alloc_past _ _ _ l5]; rw [ceb]) | (rw [World.cell?_alloc_past _ _ _ (by simp; omega), World.cell?_alloc_past _ _ _ (by simp; omega), World.cell?_alloc_past _ _ _ l5]; rw [ceb]))).mono ?_; rintro e w' ⟨rfl, rfl⟩)
            obtain ⟨how6, ids, recs, hes, hclk, hkey, hbel⟩ := HG.out
            have hXZ : Below X.heap.size X ((((X.alloc (.cells #[.int .u8 (f i : Nat)] 5)).alloc (.cells #[.int .u8 (f i : Nat)] 5)).alloc (.cells #[.int .u8 (f i : Nat)] 5)).alloc (.cells #[.int .u8 (f i : Nat)] 5)) := below_al (below_al (below_al (below_al (Below.refl _ X) _) _) _) _
            have hzk := (hXZ.cell (p := ⟨kb, 0, none⟩) l4).trans ckb
            have hza := (hXZ.cell (p := ⟨w.heap.size, 0, none⟩) l9).trans cab
            have hz3 := (hXZ.cell (p := ⟨nb, 0, none⟩) l10).trans cn0
            have hz4 := (hXZ.cell (p := ⟨nb, 1, none⟩) l10).trans cn1
            have hz5 := (hXZ.cell (p := ⟨nb, 2, none⟩) l10).trans cn2
            have hrz : ∀ t (h : t < (mkRecs f j).length), RecAt ((((X.alloc (.cells #[.int .u8 (f i : Nat)] 5)).alloc (.cells #[.int .u8 (f i : Nat)] 5)).alloc (.cells #[.int .u8 (f i : Nat)] 5)).alloc (.cells #[.int .u8 (f i : Nat)] 5)) rb (0 + t * 5) (mkRecs f j)[t] := fun t h => (recs t h).of_block (hXZ.block _ l11)
            have lzs := hXZ.size
            clear how6 ids recs hes hclk hkey hbel
            generalize ((((X.alloc (.cells #[.int .u8 (f i : Nat)] 5)).alloc (.cells #[.int .u8 (f i : Nat)] 5)).alloc (.cells #[.int .u8 (f i : Nat)] 5)).alloc (.cells #[.int .u8 (f i : Nat)] 5)) = Z at *
            have q1 : kb < Z.heap.size := by omega
            have q2 : w.heap.size < Z.heap.size := by omega
            have q3 : nb < Z.heap.size := by omega
            have q4 : rb < Z.heap.size := by omega
            have HWO := hide (fun (X' : World) (hX' : Below Z.heap.size Z X') => without_at hX' q4 hrz (mkRecs_length f j) hik (by omega))
            have HXZ := hide hXZ
            clear hXZ hrz lzs
            have q1' : kb < Z.heap.size + 1 := by omega
            have q2' : w.heap.size < Z.heap.size + 1 := by omega
            have q3' : nb < Z.heap.size + 1 := by omega
            have HCX := hide (And.intro b9 (And.intro b6 (And.intro lbb (And.intro ceb l5))))
            clear b9 b6 ccb go0 go1 gc0 gc1 ckb ceb cxb ctb cmb cab cn0 cn1 cn2 o0 o1 o3 o4 o5 o6 o8
            go_cut [32] (fun v32 wx => ∃ g2 c2, v32 = .slice (some ⟨g2, 0, none⟩) j c2 ∧ wx.ownsRow Z.heap.size 31 5 (.slice (some ⟨g2, 0, none⟩) j c2) j (recCells ((mkRecs f j).take i ++ (mkRecs f j).drop (i + 1) ++ [⟨f i, aClk, ts, tn⟩])) ∧ Below Z.heap.size Z wx)
            case first =>
              refine first41 hzk hza hz3 hz4 hz5 q1 q2 q3 hik hk1 HWO ?_
              intro t251 t252 t253 t254 t255 t256 t257 t258 t259 v32 wx hr
              go_wp2_with fail
              go_meet
              exact hr
            case rest =>
              obtain ⟨g2, c2, rfl, hrow, hbz⟩ := hcut
              obtain ⟨how6, ids, recs, hes, hclk, hkey, hbel⟩ := HG.out
              obtain ⟨b9, b6, lbb, ceb, l5⟩ := HCX.out
              have hBw : Below X.heap.size X wc := (unhide HXZ).trans (hbz.mono (unhide HXZ).size)
              have hidr : IdAt X eI.blk eI.cap (f i) := by
                have := ids eI (heI ▸ List.getElem_mem _)
                rwa [hkey] at this
              have SM := same1 (r := ⟨eI.blk, eI.cap, f i, aClk, ts, tn⟩) (f := f) how6 ids hidr hBw hrow hes hik (by omega) HN.out
              obtain ⟨jj, hjj⟩ : ∃ jj, j = jj + 1 := ⟨j - 1, by omega⟩
              have hlast := entAt_own (l := esA es i ⟨eI.blk, eI.cap, f i, aClk, ts, tn⟩) (R := []) (by rw [List.append_nil]; exact how6) jj (by rw [esA_len hel hik]; omega)
              rw [esA_last (by omega) (by omega)] at hlast
              obtain ⟨gs, hgs⟩ := own_heap how6
              have lgX := lt_of_heap hgs
              obtain ⟨v0, v1, v2, v3, v4, v5⟩ := hlast
              simp only [] at v0 v1 v2 v3 v4 v5
              have b9w := (hBw.cell (p := ⟨bb, 9, none⟩) lbb).trans b9
              have HSM := hide SM
              have HFIN := hide (And.intro hbel (And.intro hBw (And.intro b9 (And.intro b6 (And.intro lbb (And.intro lgX (And.intro v0 (And.intro v1 (And.intro v2 (And.intro v3 (And.intro v4 v5)))))))))))
              have HJJ := hide hjj
              clear SM how6 ids recs hes hclk hkey hbel hidr hrow hbz v0 v1 v2 v3 v4 v5 hgs hjj b9 ceb l5 HG HXZ HWO HCX
              have b6w : ∀ w8, Below wc.heap.size wc w8 → w8.cell? ⟨bb, 6, none⟩ = some (.int .u64 1) := fun w8 h8 => (h8.cell (p := ⟨bb, 6, none⟩) (Nat.lt_of_lt_of_le lbb hBw.size)).trans ((hBw.cell (p := ⟨bb, 6, none⟩) lbb).trans b6)
              have HB6 := hide b6w
              clear b6w b6 hBw
              go_upto_region 44 with (first | (go_at_call 13; refine (unhide HSM).mono ?_; rintro e w8 ⟨rfl, hb8⟩; have b68 := unhide HB6 w8 hb8) | (go_at_call 14; refine (aload bb 6 1 _ b68).mono ?_; rintro e w' ⟨rfl, hw'⟩; obtain rfl := hw'.symm))
              obtain ⟨hbel, hBw, b9, b6, lbb, lgX, v0, v1, v2, v3, v4, v5⟩ := HFIN.out
              have hB8 : Below X.heap.size X w8 := hBw.trans (hb8.mono hBw.size)
              have b98 := (hB8.cell (p := ⟨bb, 9, none⟩) lbb).trans b9
              have x0 := (hB8.cell (p := ⟨g, jj * 6, none⟩) lgX).trans v0
              have x1 := (hB8.cell (p := ⟨g, jj * 6 + 1, none⟩) lgX).trans v1
              have x2 := (hB8.cell (p := ⟨g, jj * 6 + 2, none⟩) lgX).trans v2
              have x3 := (hB8.cell (p := ⟨g, jj * 6 + 3, none⟩) lgX).trans v3
              have x4 := (hB8.cell (p := ⟨g, jj * 6 + 4, none⟩) lgX).trans v4
              have x5 := (hB8.cell (p := ⟨g, jj * 6 + 5, none⟩) lgX).trans v5
              have s8 := hB8.size
              have k1 : bb < w8.heap.size := by omega
              have k2 : g < w8.heap.size := by omega
              have k1' : bb < w8.heap.size + 1 := by omega
              have k2' : g < w8.heap.size + 1 := by omega
              have hjl : (jj : Int) < (j : Int) := by have := HJJ.out; omega
              have hjl2 : jj < j := by have := HJJ.out; omega
              have hwr : IntKind.i64.wrap ((j : Int) - 1) = (jj : Int) := by rw [IntKind.wrap_i64] <;> (have := HJJ.out; omega)
              have HE := hide (hbel.trans (hB8.mono hbel.size))
              obtain ⟨ii, hii85, _⟩ := Option.map_eq_some_iff.1 Ybad.inf5x
              have heq := fun wx => run_eql_ptr_same (P := Ybad.prog) (w := wx) (tp := 85) (te := 5) ⟨eI.blk, 0, none⟩ Ybad.underlying85 hii85
              have HEQ := hide heq
              clear heq hbel hBw b9 b6 lbb lgX v0 v1 v2 v3 v4 v5 hB8 s8 hb8 b68 HSM HFIN HB6 b9w hii85
              go_cut [33] (fun v33 wx => ∃ b, v33 = .pointer (some ⟨b, 0, none⟩) ∧ wx.cell? ⟨b, 0, none⟩ = some (.slice (some ⟨eI.blk, 0, none⟩) 1 eI.cap) ∧ Below w8.heap.size w8 wx)
              case first =>
                refine first44 b98 x0 x1 x2 x3 x4 x5 k1 k2 hjl2 hwr ?_
                intro t274 t275 t276 t277 t278 t279 t280 t281 t282 t283 t284 t285 v33 wx hr
                go_wp2_with fail
                go_meet
                exact hr
              case rest =>
                obtain ⟨b, rfl, hb0, hb9⟩ := hcut
                have heq := unhide HEQ
                clear HEQ
                go_upto_region 45 with fail
                go_region_held3 (fun x => x.cell? ⟨b, 0, none⟩ = some (.slice (some ⟨eI.blk, 0, none⟩) 1 eI.cap)) (go_keep) (fail)
                all_goals (go_wp2; go_ret; exact ⟨rfl, ((unhide HE).trans (hb9.mono (unhide HE).size)).drew⟩)
          · exact absurd (HMK.out.symm.trans hm) (by decide)
  · have hn' : 1024 < n := by omega
    go_enter Ybad.func3, Ybad.ntmps3
    go_wp2
    go_ret
    exact ⟨rfl, below_al (Below.refl _ _) _⟩

end Go.Proofs.YbulkagdqDoor

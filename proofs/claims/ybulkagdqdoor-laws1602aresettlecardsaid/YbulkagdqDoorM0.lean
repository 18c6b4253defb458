import Derived.Test.YbulkagdqDoorVe
namespace Go.Proofs.YbulkagdqDoor
open Go.RowKit
set_option linter.unusedVariables false

set_option maxRecDepth 100000 in
set_option maxHeartbeats 12000000 in
theorem resettle_m0 (a : Option Addr) (n c : Nat) (zs : List Int) (x1 xclk aClk mm d : Int) (ea : Addr) (w : World) (hz : InBytes w a n zs) (hx0 : 0 ≤ x1) (hx1 : x1 ≤ 255) (hc0 : 0 ≤ xclk) (hc1 : xclk ≤ 18446744073709551615) (ha0 : 0 ≤ aClk) (ha1 : aClk ≤ 18446744073709551615) (hm0 : 0 ≤ mm) (hm1 : mm ≤ 255) (hmk : mm % 3 = 0)
    (hd1 : -9223372036854775808 ≤ d) (hd2 : d ≤ 9223372036854775807)
    (hE : w.cell? ⟨0, 0, none⟩ = some (.iface 142 (.pointer (some ea)))) (hG : w.cell? ⟨1, 0, none⟩ = some (.iface 129 (.agg #[.pointer (some ⟨2, 77, none⟩)]))) :
    Calls Ybad.prog 3 #[.slice a n c, .int .u8 x1, .int .u64 xclk, .int .u64 aClk, .int .u8 mm, .int .i64 d] w fun e w' => e = .returned (.bool true) ∧ Below w.heap.size w w' := by
  have HMK : Hid (mm % 3 = 0) := hmk
  clear hmk
  by_cases hn : n ≤ 1024
  · have hn' : ¬ (1024 < n) := by omega
    have hzA : InBytes (w.alloc (.cells #[.int .u64 aClk] 23)) a n zs := ⟨hz.len, hz.bd, fun h => by
      obtain ⟨b, off, h1, h2, h3⟩ := hz.at_ h
      exact ⟨b, off, h1, by simp; omega, fun i hi => by rw [World.cell?_alloc_past _ _ _ h2]; exact h3 i hi⟩⟩
    have hzN : InBytes (w.alloc (.cells #[.int .u64 aClk] 23)) none 0 [] := ⟨rfl, fun i => by simp, fun h => absurd h (Nat.lt_irrefl _)⟩
    go_enter Ybad.func3, Ybad.ntmps3
    go_upto_if 41 with (go_at_call 5; refine (distinct_any a n c zs none 0 0 [] 256 _ hzA hzN hn (by decide) (by decide)).mono ?_; rintro e w1 ⟨v, l, rfl, how, hbd, hnd, hlen, hB⟩; obtain ⟨va, vc, rfl⟩ := ownsRow_shape how)
    have hB0 : Below w.heap.size w w1 := ((below_al (Below.refl _ _) _).trans (hB.mono (by simp)))
    have hab : w1.heap[w.heap.size]? = some (.cells #[.int .u64 aClk] 23 (0, 0)) := (hB.block _ (by simp)).trans (heap_alloc_new' _ _)
    go_cut [13] (fun v13 wx => ∃ (gi k ci : Nat) (l : List Nat), v13 = .slice (some ⟨gi, 0, none⟩) k ci ∧ w.heap.size ≤ gi ∧ IdsAt wx gi k l ∧ Below w.heap.size w wx ∧ wx.heap[w.heap.size]? = some (.cells #[.int .u64 aClk] 23 (0, 0)))
    case first =>
      by_cases hl0 : l.length = 0
      · have hl0' : ((l.length : Int) == 0) = true := by simp [hl0]
        go_wp2
        go_meet
        case rel => exact ⟨_, 1, 1, [0], rfl, hB0.size, ids_one _, below_al hB0 _, by rw [Below.heap_alloc _ _ _ (lt_of_heap hab)]; exact hab⟩
      · have hl0' : ((l.length : Int) == 0) = false := by rw [beq_eq_false_iff_ne]; omega
        obtain ⟨gi, rfl, hgi, hI⟩ := ids_own how hbd hl0 hlen
        go_wp2
        go_meet
        case rel => exact ⟨gi, _, _, _, rfl, by simp at hgi; omega, hI, hB0, hab⟩
    case rest =>
      obtain ⟨gi, k, ci, l, rfl, hgi, hI, hB1, hab1⟩ := hcut
      obtain ⟨hg0, hlen2, hat, hbd2, hk0, hk1⟩ := hI
      obtain ⟨i, hi⟩ : ∃ i : Nat, x1 % (k : Int) = i := ⟨(x1 % (k : Int)).toNat, by rw [Int.toNat_of_nonneg (Int.emod_nonneg _ (by omega))]⟩
      have hik : i < k := by have := Int.emod_lt_of_pos x1 (b := (k : Int)) (by omega); omega
      have hk00 : ¬ (k = 0) := by omega
      have hk00' : ((k : Int) == 0) = false := by rw [beq_eq_false_iff_ne]; omega
      obtain ⟨f, hf⟩ : ∃ f : Nat → Nat, f = fun t => l.getD t 0 := ⟨_, rfl⟩
      have hat' : ∀ j, j < k → wc.cell? ⟨gi, j, none⟩ = some (.int .u8 (f j : Nat)) := fun j hj => by
        rw [hat j (by omega), hf]; simp [List.getD_eq_getElem?_getD, List.getElem?_eq_getElem (show j < l.length by omega)]
      have hfb : ∀ j, j < k → f j < 256 := fun j hj => by
        have := hbd2 j (by omega)
        rw [hf]; simpa [List.getD_eq_getElem?_getD, List.getElem?_eq_getElem (show j < l.length by omega)] using this
      clear hf hat hbd hbd2 how hz hzA hzN hnd hB hB0 hab hlen hlen2
      obtain ⟨i0, hii, hz0, hz1, hz2⟩ := info_parts Ybad.info31
      go_wp2_with (at_make; refine wpList_make_full _ rfl _ _ 25 rfl wc.heap.size 31 i0 _ 5 Ybad.underlying25 hii hz0 hz1 .i64 .i64 k k k rfl rfl rfl rfl (by rw [hz2]; omega) (by unfold maxLen; omega) (Nat.le_refl _) ?_)
      intro w2 hown hg
      go_wp2
      go_loopw [53] (fun q wr => ∃ (j : Nat) (R : List Value), j ≤ k ∧ q = .int .i64 j ∧ wr.ownsRow wc.heap.size 31 5 (.slice (some ⟨wc.heap.size, 0, none⟩) k k) k (recCells (mkRecs f j) ++ R) ∧ Below wc.heap.size wc wr) (fun q _ => k - (intOf q).toNat)
      case atStart => exact ⟨0, _, Nat.zero_le _, rfl, hown, (Below.refl _ _).grown hg (Nat.le_refl _) (fun _ h => by cases h)⟩
      case round =>
        obtain ⟨j, R, hj, rfl, how, hbl⟩ := hrel
        have hsz : wc.heap.size < wr.heap.size := by rcases own_heap how with ⟨cs, h⟩; exact lt_of_heap h
        by_cases hlt : j < k
        · have hxl := how.1
          rw [List.length_append, recCells_length, mkRecs_length] at hxl
          obtain ⟨r0, r1, r2, r3, r4, R', rfl⟩ : ∃ r0 r1 r2 r3 r4 R', R = r0 :: r1 :: r2 :: r3 :: r4 :: R' := by
            match R, hxl with
            | r0 :: r1 :: r2 :: r3 :: r4 :: R', _ => exact ⟨r0, r1, r2, r3, r4, R', rfl⟩
            | [], h => simp at h; omega
            | [_], h => simp at h; omega
            | [_, _], h => simp at h; omega
            | [_, _, _], h => simp at h; omega
            | [_, _, _, _], h => simp at h; omega
          have fz : ∀ t, wr.frozen? ⟨wc.heap.size, t, none⟩ = false := fun t => how.frozenAt t
          obtain ⟨z0, z1, z2, z3, z4⟩ := own_at5 how (m := j * 5) (by rw [recCells_length, mkRecs_length])
          have q0 := (hbl.cell (p := ⟨gi, j, none⟩) hg0).trans (hat' j hlt)
          have hj2 : (j : Int) < (k : Int) := by omega
          have ST := fun w1 (hb1 : Below wr.heap.size wr w1) => recs_step how hbl hsz hb1
          have HST := hide ST
          clear ST how hat' hfb
          go_wp2_with (go_at_call 6; refine (aat_any (j : Int) _ (by omega) (by omega)).mono ?_; rintro e w3 ⟨rfl, hb3⟩; unfold tmV; obtain ⟨hc3, hf3⟩ := bcell hb3; have z0' := (hc3 _ _ hsz).trans z0; have z1' := (hc3 _ _ hsz).trans z1; have z2' := (hc3 _ _ hsz).trans z2; have z3' := (hc3 _ _ hsz).trans z3; have z4' := (hc3 _ _ hsz).trans z4; have fz' := fun t => (hf3 wc.heap.size t hsz).trans (fz t); obtain ⟨h7, h8⟩ := unhide HST w3 hb3; have H7 := hide h7; have H8 := hide h8; clear h7 h8 hb3 hc3 hf3 HST)
          go_roundw
          case rel => exact ⟨j + 1, R', by omega, by go_num, unhide H7, unhide H8⟩
          case measure => simp [intOf]; omega
        · have hj2 : ¬ ((j : Int) < (k : Int)) := by omega
          obtain rfl : j = k := by omega
          have hxl := how.1
          rw [List.length_append, recCells_length, mkRecs_length] at hxl
          obtain rfl : R = [] := List.eq_nil_of_length_eq_zero (by omega)
          rw [List.append_nil] at how
          clear hj2
          have hj2 : ¬ ((j : Int) < (j : Int)) := by omega
          have hra : ∀ (X : World), Below wr.heap.size wr X → ∀ t (h : t < (mkRecs f j).length), RecAt X wc.heap.size (0 + t * 5) (mkRecs f j)[t] := fun X hX t h => by
            have := (recAt_own (R := []) (by rw [List.append_nil]; exact how) t h).of_block (hX.block _ hsz)
            rwa [Nat.zero_add]
          have HRA := hide hra
          have HOW := hide how
          have hq := (hbl.cell (p := ⟨gi, i, none⟩) hg0).trans (hat' i hik)
          have hgr : gi < wr.heap.size := by omega
          have hab2 := (hbl.block _ (lt_of_heap hab1)).trans hab1
          have hB2 : Below w.heap.size w wr := hB1.trans (hbl.mono hB1.size)
          have HH := hide (And.intro hab1 (And.intro hbl (And.intro hB1 (And.intro hab2 (And.intro hB2 (And.intro hE (And.intro hG hat')))))))
          have hki : (i : Int) < (j : Int) := by omega
          have hfb' := hfb i hik
          clear hra how hab1 hbl hB1 hat' hfb hab2 hB2 hE hG hown hg
          go_upto_region 14 with (go_at_call 7; refine (entries_any wc.heap.size 0 j j (mkRecs f j) _ (by omega) (by omega) (mkRecs_length _ _) (by simp; omega) (unhide HRA _ (below_al (Below.refl _ _) _))).mono ?_; rintro e w4 ⟨v4, es, rfl, ho4, he4, hi4, hB4⟩; obtain ⟨va4, vc4, rfl⟩ := ownsRow_shape ho4)
          obtain ⟨g, cap, cur, hv4, hg4, hh4, hcap, htk⟩ := own_form ho4 (by intro h; injection h; omega)
          injection hv4 with hv4 _ hv5
          subst hv4 hv5
          have hel : es.length = j := by have := congrArg List.length he4; simpa [mkRecs_length] using this
          obtain ⟨eI, heI⟩ : ∃ eI, es[i]'(by omega) = eI := ⟨_, rfl⟩
          have hea := entAt_own (R := []) (by rw [List.append_nil]; exact ho4) i (by omega)
          rw [heI] at hea
          obtain ⟨c0, c1, c2, c3, c4, c5⟩ := hea
          have hg4' : wr.heap.size + 1 ≤ g := by simpa using hg4
          have lg4 := lt_of_heap hh4
          have hB4' : Below wr.heap.size wr w4 := (below_al (Below.refl _ _) _).trans (hB4.mono (by simp))
          have hq4 := (hB4'.cell (p := ⟨gi, i, none⟩) hgr).trans hq
          have hgr4 : gi < w4.heap.size := by have := hB4'.size; omega
          have H4 := hide (And.intro ho4 (And.intro he4 (And.intro hi4 hB4')))
          obtain ⟨m, hm⟩ : ∃ m : Int, mm % 3 = m := ⟨_, rfl⟩
          have hmr : m = 0 ∨ m = 1 ∨ m = 2 := by omega
          clear hq ho4 he4 hi4 hB4 hB4' hh4 htk hcap hg4
          go_upto_region 21 with fail
          obtain ⟨ho4, he4, hi4, hB4'⟩ := H4.out
          obtain ⟨_, _, hB1, hab2, hB2, hE, hG, hat'⟩ := HH.out
          obtain ⟨hS, hWs⟩ := st8 (m := m) hB1.size hab2 hB2 (unhide HOW) ho4 he4 hi4 hB4' hfb' hg4' (.cells #[.int .u8 255] 5) (.slice (some ⟨w4.heap.size + 1 + 1 + 1 + 1 + 1 + 1, 0, none⟩) 1 1) (.slice (some ⟨wr.heap.size, 0, none⟩) 1 1) _ rfl
          have hkc := cell_of_heap hS.arb.h4 0
          simp at hkc
          have HS := hide hS
          have HHH := hide (And.intro hE hG)
          have hkl : w4.heap.size + 1 < w4.heap.size + 8 := by omega
          clear hS ho4 he4 hi4 hB4' H4 HH hB1 hab2 hB2 hE hG hat' HRA HOW hq4 hgr4 c0 c1 c2 c3 c4 c5
          generalize (((((((w4.alloc (.cells #[.int .i32 0, .int .u32 0, .int .u32 0, .int .u32 0, .int .i32 0, .int .i32 0, .int .u64 0, .int .i64 0, .slice (some ⟨wr.heap.size, 0, none⟩) 1 1, .slice (some ⟨g, 0, none⟩) j vc4, .slice none 0 0, .pointer none] 56)).alloc (.cells #[.int .u8 (f i : Nat)] 5)).alloc (.cells #[.int .u8 m] 5)).alloc (.cells #[.int .i64 0] 3)).alloc (.cells #[.slice none 0 0, .int .u64 0, .nilIface] 58)).alloc (.cells #[.slice none 0 0, .int .u64 0, .nilIface] 58)).alloc (.cells #[.int .u8 255] 5)).alloc (.cells #[.slice (some ⟨w4.heap.size + 1 + 1 + 1 + 1 + 1 + 1, 0, none⟩) 1 1, .int .i64 20, .int .i64 3, .int .i64 0, .int .i64 0, .nilFunc, .func (.func 8) #[] #[.pointer (some ⟨w4.heap.size + 1 + 1 + 1, 0, none⟩), .pointer (some ⟨w4.heap.size + 1 + 1 + 1 + 1, 0, none⟩), .pointer (some ⟨w4.heap.size + 1 + 1 + 1 + 1 + 1, 0, none⟩), .pointer (some ⟨w4.heap.size + 1 + 1, 0, none⟩), .pointer (some ⟨w4.heap.size + 1, 0, none⟩), .pointer (some ⟨w.heap.size, 0, none⟩)], .nilFunc, .nilFunc, .nilFunc, .nilFunc, .int .u64 0, .int .i64 0, .pointer none, .int .i32 0, .int .u32 0, .int .u32 0, .int .u32 0, .int .i32 0, .int .i32 0, .int .i32 0, .int .u32 0, .int .u32 0, .int .u32 0, .int .i32 0, .int .i32 0, .int .u64 0, .int .i64 0, .slice none 0 0, .slice none 0 0, .slice none 0 0, .pointer none, .int .i64 j] 70) = W at *
          rw [← hWs] at hkl
          go_upto_region 23 with (go_at_call 9; refine (add_any d _ hd1 hd2).mono ?_; rintro e w5 ⟨rfl, hB5⟩; unfold tmV; have hkc5 := (hB5.cell (p := ⟨w4.heap.size + 1, 0, none⟩) hkl).trans hkc; have hkl5 := Nat.lt_of_lt_of_le hkl hB5.size)
          have hSY := (unhide HS).kp (below_al (below_al (below_al hB5 (.cells #[.int .u64 (tNs d), .int .i64 (tSec d), .pointer none] 28)) (.cells #[.int .u8 (f i : Nat)] 5)) (.cells #[.slice (some ⟨w5.heap.size + 1, 0, none⟩) 1 1, .int .u64 xclk, .nilIface] 58))
          have hnb : (((w5.alloc (.cells #[.int .u64 (tNs d), .int .i64 (tSec d), .pointer none] 28)).alloc (.cells #[.int .u8 (f i : Nat)] 5)).alloc (.cells #[.slice (some ⟨w5.heap.size + 1, 0, none⟩) 1 1, .int .u64 xclk, .nilIface] 58)).heap[w5.heap.size]? = some (.cells #[.int .u64 (tNs d), .int .i64 (tSec d), .pointer none] 28 (0, 0)) := by
            rw [Below.heap_alloc _ _ _ (by simp; omega), Below.heap_alloc _ _ _ (by simp)]; exact heap_alloc_new' _ _
          have hxb : (((w5.alloc (.cells #[.int .u64 (tNs d), .int .i64 (tSec d), .pointer none] 28)).alloc (.cells #[.int .u8 (f i : Nat)] 5)).alloc (.cells #[.slice (some ⟨w5.heap.size + 1, 0, none⟩) 1 1, .int .u64 xclk, .nilIface] 58)).heap[w5.heap.size + 1]? = some (.cells #[.int .u8 (f i : Nat)] 5 (0, 0)) := by
            rw [Below.heap_alloc _ _ _ (by simp)]; exact heap_new_at _ _ _ (by simp)
          have hxs : (((w5.alloc (.cells #[.int .u64 (tNs d), .int .i64 (tSec d), .pointer none] 28)).alloc (.cells #[.int .u8 (f i : Nat)] 5)).alloc (.cells #[.slice (some ⟨w5.heap.size + 1, 0, none⟩) 1 1, .int .u64 xclk, .nilIface] 58)).heap[w5.heap.size + 1 + 1]? = some (.cells #[.slice (some ⟨w5.heap.size + 1, 0, none⟩) 1 1, .int .u64 xclk, .nilIface] 58 (0, 0)) := heap_new_at _ _ _ (by simp)
          clear HS hkc hkl hWs hB5 hkc5 hkl5 lg4 hg4' hgr hi hj hlt hxl hj2
          generalize (((w5.alloc (.cells #[.int .u64 (tNs d), .int .i64 (tSec d), .pointer none] 28)).alloc (.cells #[.int .u8 (f i : Nat)] 5)).alloc (.cells #[.slice (some ⟨w5.heap.size + 1, 0, none⟩) 1 1, .int .u64 xclk, .nilIface] 58)) = Y at *
          generalize w5.heap.size + 1 + 1 = xs at *
          generalize w5.heap.size + 1 = xb at *
          generalize w5.heap.size = nb at *
          generalize w4.heap.size + 1 + 1 + 1 + 1 + 1 + 1 + 1 = tb at *
          generalize w4.heap.size + 1 + 1 + 1 + 1 + 1 = gc at *
          generalize w4.heap.size + 1 + 1 + 1 + 1 = go at *
          generalize w4.heap.size + 1 + 1 + 1 = cb at *
          generalize w4.heap.size + 1 + 1 = mb at *
          generalize w4.heap.size + 1 = kb at *
          generalize w4.heap.size = bb at *
          generalize wc.heap.size = rb at *
          generalize wr.heap.size = base at *
          obtain ⟨y0, y1, y2⟩ : Y.cell? ⟨nb, 0, none⟩ = some (.int .u64 (tNs d)) ∧ Y.cell? ⟨nb, 1, none⟩ = some (.int .i64 (tSec d)) ∧ Y.cell? ⟨nb, 2, none⟩ = some (.pointer none) := ⟨by rw [cell_of_heap hnb]; rfl, by rw [cell_of_heap hnb]; rfl, by rw [cell_of_heap hnb]; rfl⟩
          obtain ⟨y3, y4, y5⟩ : Y.cell? ⟨xs, 0, none⟩ = some (.slice (some ⟨xb, 0, none⟩) 1 1) ∧ Y.cell? ⟨xs, 1, none⟩ = some (.int .u64 xclk) ∧ Y.cell? ⟨xs, 2, none⟩ = some .nilIface := ⟨by rw [cell_of_heap hxs]; rfl, by rw [cell_of_heap hxs]; rfl, by rw [cell_of_heap hxs]; rfl⟩
          have hNs := tNs_bd d
          have HY := hide (And.intro hSY (And.intro hnb hxb))
          have HN := hide hNs
          generalize tNs d = tn at *
          generalize tSec d = ts at *
          clear hSY hnb hxb hxs hNs
          rcases hmr with rfl | rfl | rfl
          · obtain ⟨hSY, hnb, hxb⟩ := HY.out
            have P := place8_0 tb bb 20 3 0 .nilFunc (.slice none 0 0) j 0 cb go gc mb kb w.heap.size 0 (f i) aClk xb 1 xclk ts tn g j vc4 base i es Y hSY.tab hSY.arb (by decide) (by decide) hSY.buk hSY.own hel hik (by omega)
            simp only [heI] at P
            have HP := hide P
            clear P hSY hnb hxb
            go_upto_region 24 with (go_at_call 10; refine (unhide HP).mono ?_; rintro e w6 ⟨rfl, e5, e6, e7⟩; unfold outZero)
            obtain ⟨hSY, hnb, hxb⟩ := HY.out
            obtain ⟨ccb, go0, go1, gc0, gc1, ckb, ceb, cxb, ctb, cmb, cab, cn0, cn1, cn2, ⟨l1, l2, l3, l4, l5, l6, l7, l8, l9, l10, l11⟩, ids, recs, hclk, hkey, hbel⟩ := mid hSY hel hik heI hnb hxb e5 (e6.mono (by simp)) (.cells #[.slice none 0 0, .int .u64 0, .nilIface, .bool false, .bool false, .slice none 0 0, .int .u64 0, .nilIface, .slice none 0 0] 75)
            have ho := heap_alloc_new' w6 (.cells #[.slice none 0 0, .int .u64 0, .nilIface, .bool false, .bool false, .slice none 0 0, .int .u64 0, .nilIface, .slice none 0 0] 75)
            obtain ⟨bs, hb1, hb2, hb3, hb4⟩ := hSY.buk.at_
            obtain ⟨gs, hgs⟩ := own_heap hSY.own
            obtain ⟨a0, ⟨_, _, _, a1⟩, ⟨_, _, _, a2⟩, _⟩ := hSY.arb
            have kb6 : w6.heap[bb]? = Y.heap[bb]? := e6.block bb (lt_of_heap hb1) (by simp; exact ⟨heap_ne hb1 a0 (by decide), heap_ne hb1 a1 (by decide), heap_ne hb1 a2 (by decide), heap_ne hb1 hgs (by decide)⟩)
            have hb6 := kb6.trans hb1
            have hbX := (Below.heap_alloc w6 (.cells #[.slice none 0 0, .int .u64 0, .nilIface, .bool false, .bool false, .slice none 0 0, .int .u64 0, .nilIface, .slice none 0 0] 75) _ (lt_of_heap hb6)).trans hb6
            have how6 := e7.alloc (.cells #[.slice none 0 0, .int .u64 0, .nilIface, .bool false, .bool false, .slice none 0 0, .int .u64 0, .nilIface, .slice none 0 0] 75)
            have hes := hSY.es_
            clear hSY hnb hxb e5 e6 e7 kb6 hb6 HP HY hb1 hgs a0 a1 a2
            generalize (w6.alloc (.cells #[.slice none 0 0, .int .u64 0, .nilIface, .bool false, .bool false, .slice none 0 0, .int .u64 0, .nilIface, .slice none 0 0] 75)) = X at *
            obtain ⟨o3, o4, o8⟩ : X.cell? ⟨w6.heap.size, 3, none⟩ = some (.bool false) ∧ X.cell? ⟨w6.heap.size, 4, none⟩ = some (.bool false) ∧ X.cell? ⟨w6.heap.size, 8, none⟩ = some (.slice none 0 0) := ⟨by rw [cell_of_heap ho]; rfl, by rw [cell_of_heap ho]; rfl, by rw [cell_of_heap ho]; rfl⟩
            have b9 := (cell_of_heap hbX 9).trans hb3
            have b6 := (cell_of_heap hbX 6).trans hb2
            have lo := lt_of_heap ho
            have lbb := lt_of_heap hbX
            have hwo : wo (mkRecs f j) (-1) j = mkRecs f j := by
              unfold wo; rw [if_pos (by omega), List.take_of_length_le (by rw [mkRecs_length]; exact Nat.le_refl _)]
            have WO : ∀ o1 o2, Calls Ybad.prog 15 #[.slice (some ⟨rb, 0, none⟩) j j, .int .i64 (-1)] ((X.alloc o1).alloc o2) fun e w' => ∃ g2 c2, e = .returned (.slice (some ⟨g2, 0, none⟩) j c2) ∧ X.heap.size ≤ g2 ∧ w'.ownsRow X.heap.size 31 5 (.slice (some ⟨g2, 0, none⟩) j c2) j (recCells (mkRecs f j)) ∧ Below X.heap.size X w' := fun o1 o2 => by
              have hX := below_al (below_al (Below.refl _ X) o1) o2
              refine (without_any (some ⟨rb, 0, none⟩) j j (-1) (mkRecs f j) _ (by omega) (mkRecs_length _ _) (fun _ => ⟨rb, 0, rfl, Nat.lt_of_lt_of_le l11 hX.size, fun t ht => (recs t ht).of_block (hX.block _ l11)⟩)).mono ?_
              rintro e w' ⟨v, rfl, h1, h2⟩
              rw [hwo, mkRecs_length] at h1
              obtain ⟨va, vc, rfl⟩ := ownsRow_shape h1
              obtain ⟨g2, c2, cu, h3, h4, h5, h6, h7⟩ := own_form h1 (by intro h; injection h; omega)
              injection h3 with h3 _ h8
              subst h3 h8
              have hle := hX.size
              refine ⟨g2, _, rfl, by omega, ⟨h1.1, ?_⟩, below2 h2⟩
              rcases h1.2 with h | ⟨q1, q2, q3, q4, q5, q6⟩
              · exact Or.inl h
              · exact Or.inr ⟨q1, q2, q3, q4, by omega, q6⟩
            have HWO := hide WO
            have SM : ∀ (w7 X' : World) (g2 c2 : Nat), Below X.heap.size X w7 → X.heap.size ≤ g2 → w7.ownsRow X.heap.size 31 5 (.slice (some ⟨g2, 0, none⟩) j c2) j (recCells (mkRecs f j)) → X' = (((w7.setCell ⟨g2, i * 5 + 2, none⟩ (.int .u64 tn)).setCell ⟨g2, i * 5 + 2 + 1, none⟩ (.int .i64 ts)).setCell ⟨g2, i * 5 + 2 + 2, none⟩ (.pointer none)) → Calls Ybad.prog 13 #[.slice (some ⟨g, 0, none⟩) j vc4, .slice (some ⟨g2, 0, none⟩) j c2] X' fun e w' => e = .returned (.bool true) ∧ Below X.heap.size X w' := fun w7 X' g2 c2 hB7 hg2 hrow hX' => by
              have hil : i < (mkRecs f j).length := by rw [mkRecs_length]; exact hik
              have h9 := rec_heard hrow hil ts tn
              have hBX : Below X.heap.size X X' := by rw [hX']; exact ((hB7.setCell hg2 _).setCell hg2 _).setCell hg2 _
              rw [← hX'] at h9
              refine (same_own how6 ?_ hBX h9 ?_ (by rw [List.length_set, mkRecs_length]) (by omega) ?_).mono ?_
              · intro e he
                rcases List.mem_or_eq_of_mem_set he with h | h
                · exact ids e h
                · subst h
                  have := ids eI (heI ▸ List.getElem_mem _)
                  exact this
              · rw [List.map_set, hes]
                congr 1
                have : eI.toRec = (mkRecs f j)[i] := by
                  have h1 : (es.map Ent.toRec)[i]? = (mkRecs f j)[i]? := by rw [hes]
                  rw [List.getElem?_map, List.getElem?_eq_getElem (by omega), List.getElem?_eq_getElem hil, heI] at h1
                  simpa using h1
                rw [← this]
                rfl
              · intro r hr
                rcases List.mem_or_eq_of_mem_set hr with h | h
                · obtain ⟨t, ht, rfl⟩ := List.getElem_of_mem h
                  rw [mkRecs_length] at ht
                  rw [mkRecs_get]; simp only []; omega
                · subst h; exact HN.out
              · rintro e w' ⟨rfl, hb8⟩
                exact ⟨rfl, hBX.trans (hb8.mono hBX.size)⟩
            have HSM := hide SM
            have HBEL := hide hbel
            clear SM WO how6 ids recs hes hbel ho hbX hb2 hb3 hb4 hwo HHH
            have l1' : cb < X.heap.size + 1 := by omega
            have l2' : go < X.heap.size + 1 := by omega
            have l3' : gc < X.heap.size + 1 := by omega
            have l4' : kb < X.heap.size + 1 := by omega
            have l5' : eI.blk < X.heap.size + 1 := by omega
            have l6' : xb < X.heap.size + 1 := by omega
            have l7' : tb < X.heap.size + 1 := by omega
            have l8' : mb < X.heap.size + 1 := by omega
            have lo' : w6.heap.size < X.heap.size + 1 := by omega
            have lbb' : bb < X.heap.size + 1 := by omega
            go_wp2_with (first | (go_at_call 11; refine (beq_new _ _ _ (f i) _ (by simp) hfb' (by first | (rw [World.cell?_alloc_past _ _ _ l6]; exact cxb) | exact ceb)).mono ?_; rintro e w' ⟨rfl, rfl⟩) | (go_at_call 15; refine (unhide HWO _ _).mono ?_; rintro e w7 ⟨g2, c2, rfl, hg2, hr7, hB7⟩; obtain ⟨hc7, hf7⟩ := bcell hB7; have cn0' := (hc7 _ _ l10).trans cn0; have cn1' := (hc7 _ _ l10).trans cn1; have cn2' := (hc7 _ _ l10).trans cn2; have b9' := (hc7 _ _ lbb).trans b9; have b6' := (hc7 _ _ lbb).trans b6; have hg2n : bb ≠ g2 := (by omega); have hf2 := (own_spare hr7).2; have hz2' : ∀ t, t < 3 → (w7.cell? ⟨g2, i * 5 + 2 + t, none⟩).isSome = true := (fun t ht => (hf2 _ (by have := (own_spare hr7).1; omega)).1); have hfz : ∀ t, w7.frozen? ⟨g2, t, none⟩ = false := (fun t => hr7.frozenAt t); obtain ⟨z0, hz0'⟩ := Option.isSome_iff_exists.1 (hz2' 0 (by omega)); obtain ⟨z1, hz1'⟩ := Option.isSome_iff_exists.1 (hz2' 1 (by omega)); obtain ⟨z2, hz2''⟩ := Option.isSome_iff_exists.1 (hz2' 2 (by omega)); have HR7 := hide hr7; clear hf2 hz2' hr7 hc7 hf7) | (go_at_call 13; refine (unhide HSM w7 _ g2 c2 hB7 hg2 (unhide HR7) rfl).mono ?_; rintro e w8 ⟨rfl, hb8⟩; have b68 := (hb8.cell (p := ⟨bb, 6, none⟩) lbb).trans b6) | (go_at_call 14; refine (aload bb 6 0 _ b68).mono ?_; rintro e w' ⟨rfl, rfl⟩))
            go_ret
            exact ⟨rfl, (unhide HBEL).trans (hb8.mono (unhide HBEL).size)⟩
          · exact absurd (HMK.out.symm.trans hm) (by decide)
          · exact absurd (HMK.out.symm.trans hm) (by decide)
  · have hn' : 1024 < n := by omega
    go_enter Ybad.func3, Ybad.ntmps3
    go_wp2
    go_ret
    exact ⟨rfl, below_al (Below.refl _ _) _⟩

end Go.Proofs.YbulkagdqDoor

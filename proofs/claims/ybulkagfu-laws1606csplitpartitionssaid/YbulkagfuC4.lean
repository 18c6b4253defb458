import Derived.Test.YbulkagfuC3
namespace Go.Proofs.Ybulkagfu.Split
open Go.RowKit
set_option linter.unusedVariables false
set_option maxRecDepth 100000

/-- The keys: each delta, and one more, added up. -/
def pf (z : Nat → Nat) : Nat → Nat
  | 0 => 0
  | k + 1 => pf z k + (z k + 1)

theorem pf_le {z : Nat → Nat} (h : ∀ i, z i ≤ 255) : ∀ k, pf z k ≤ 256 * k
  | 0 => Nat.le_refl _
  | k + 1 => by have := pf_le h k; have := h k; simp only [pf]; omega
theorem pf_lt (z : Nat → Nat) : ∀ d i, pf z i < pf z (i + d + 1)
  | 0, i => by show pf z i < pf z i + (z i + 1); omega
  | d + 1, i => by have := pf_lt z d i; show pf z i < pf z (i + d + 1) + (z _ + 1); omega
theorem pf_sorted (z : Nat → Nat) : ∀ (m lo : Nat), List.Pairwise (· < ·) ((List.range' lo m).map fun i => (pf z (i + 1) : Int)) := by
  intro m lo
  rw [List.pairwise_iff_getElem]
  intro a b ha hb h
  simp only [List.getElem_map, List.getElem_range']
  have := pf_lt z (b - a - 1) (lo + 1 * a + 1)
  have e : lo + 1 * a + 1 + (b - a - 1) + 1 = lo + 1 * b + 1 := by omega
  rw [e] at this
  omega

/-- The row of keys, filled as far as k. -/
structure Row (w : World) (g n k : Nat) (z : Nat → Nat) : Prop where
  row : ∃ xs, w.ownsRow g 36 1 (.slice (some ⟨g, 0, none⟩) n n) n xs ∧ ∀ i, i < k → xs[i]? = some (.int .u64 (pf z (i + 1) : Nat))

theorem Row.old {w : World} {g n k j : Nat} {z : Nat → Nat} (h : Row w g n k z) (hj : j < n) : ∃ v, w.cell? ⟨g, j, none⟩ = some v := by
  obtain ⟨xs, h1, h2⟩ := h.row
  have hl := h1.1
  exact ⟨xs[j]'(by omega), (h1.cellAt j (by omega)).trans (List.getElem?_eq_getElem _)⟩
theorem Row.free {w : World} {g n k : Nat} {z : Nat → Nat} (h : Row w g n k z) (j : Nat) : w.frozen? ⟨g, j, none⟩ = false := by
  obtain ⟨xs, h1, h2⟩ := h.row
  exact h1.frozenAt j
theorem Row.at_ {w : World} {g n k : Nat} {z : Nat → Nat} (h : Row w g n k z) (i : Nat) (hi : i < k) (hk : k ≤ n) : w.cell? ⟨g, i, none⟩ = some (.int .u64 (pf z (i + 1) : Nat)) := by
  obtain ⟨xs, h1, h2⟩ := h.row
  rw [h1.cellAt i (by omega)]
  exact h2 i hi
theorem Row.set {w : World} {g n k : Nat} {z : Nat → Nat} (h : Row w g n k z) (hk : k < n) : Row (w.setCell ⟨g, k, none⟩ (.int .u64 (pf z (k + 1) : Nat))) g n (k + 1) z := by
  obtain ⟨xs, h1, h2⟩ := h.row
  have hl := h1.1
  refine ⟨_, (h1.stored k _).1, fun i hi => ?_⟩
  rw [List.getElem?_set]
  by_cases e : k = i
  · subst e; simp; omega
  · rw [if_neg e]; exact h2 i (by omega)

theorem ino_top (d lo hi : Nat) (v : Value) (ks : List Int) (w : World) (h : Rd w lo hi d v ks) (h1 : hi ≤ w.heap.size) (h3 : ks.length ≤ 300) :
    Calls Yba.prog 10 #[v, .slice none 0 0] w fun e w' => ∃ a c, e = .returned (.slice a ks.length c) ∧ w'.ownsRow w.heap.size 36 1 (.slice a ks.length c) ks.length (ks.map (Value.int .u64)) ∧ Below w.heap.size w w' := by
  refine (ino_any d lo hi w.heap.size v ks w (.slice none 0 0) 0 [] h h1 (Nat.le_refl _) (World.ownsRow_nil _ _ _ _) (by omega)).mono ?_
  rintro e w' ⟨v', rfl, ho, hb⟩
  rw [Nat.zero_add, List.nil_append] at ho
  obtain ⟨a, c, rfl⟩ := own_shape ho
  exact ⟨a, c, rfl, ho, hb⟩

theorem own_cell {w : World} {base : Nat} {a : Option Addr} {n c : Nat} {xs : List Value} (h : w.ownsRow base 36 1 (.slice a n c) n xs) (i : Nat) (hi : i < n) : ∃ g, a = some ⟨g, 0, none⟩ ∧ g < w.heap.size ∧ w.cell? ⟨g, i, none⟩ = xs[i]? := by
  rcases h.2 with ⟨_, h0⟩ | ⟨g, cap, cur, hv, hb, hg, _⟩
  · omega
  · simp only [Value.slice.injEq] at hv
    obtain ⟨rfl, _, rfl⟩ := hv
    exact ⟨g, rfl, (Array.getElem?_eq_some_iff.1 hg).1, h.cellAt i (by omega)⟩

theorem Row.lt {w : World} {g n k : Nat} {z : Nat → Nat} (h : Row w g n k z) : g < w.heap.size := by
  obtain ⟨xs, h1, _⟩ := h.row
  exact (h1.lt g rfl).2

abbrev cObj : Obj := .cells #[.int .i64 0] 3

theorem env_start {w wr : World} {n n1 : Nat} {a1 : Option Addr} {z : Nat → Nat} (hR : Row wr w.heap.size n n z) (hB : Below w.heap.size w wr) (h1 : 0 < n1 → ∃ x, a1 = some x ∧ ∀ i, i < n1 → ∃ q : Nat, q ≤ 255 ∧ w.cell? (x.add i) = some (.int .u8 q)) :
    Env (wr.alloc cObj) w.heap.size n wr.heap.size (fun i => (pf z (i + 1) : Nat)) a1 n1 := by
  have hlt := hR.lt
  have hA : Below wr.heap.size wr (wr.alloc cObj) := (Below.refl _ _).alloc (Nat.le_refl _) _
  refine ⟨fun i hi => (hA.cell (p := ⟨w.heap.size, i, none⟩) hlt).trans (hR.at_ i hi (Nat.le_refl _)), fun h0 => ?_, by omega⟩
  obtain ⟨x, hx, hc⟩ := h1 h0
  have e : ∀ i, (x.add i).block = x.block := fun i => by unfold Addr.add; split <;> simp
  refine ⟨x, hx, ?_, fun i hi => ?_⟩
  · obtain ⟨q, _, hq⟩ := hc 0 h0
    have := World.block_lt_of_cell? w _ hq
    rw [e] at this
    omega
  · obtain ⟨q, h2, hq⟩ := hc i hi
    have l := World.block_lt_of_cell? w _ hq
    exact ⟨q, h2, (hA.cell (p := x.add i) (by omega)).trans ((hB.cell l).trans hq)⟩

/-- What the two checks read. -/
structure Fin (w7 : World) (kb n : Nat) (S : Int) (ab : Option Addr) (nb : Nat) (ar : Option Addr) (nr : Nat) : Prop where
  sum : nb + nr = n
  lo : ∀ i, i < nb → ∃ (g : Nat) (x : Int), ab = some ⟨g, 0, none⟩ ∧ w7.cell? ⟨g, i, none⟩ = some (.int .u64 x) ∧ w7.cell? ⟨kb, i, none⟩ = some (.int .u64 x) ∧ x < S
  hi : ∀ i, i < nr → ∃ (g : Nat) (x : Int), ar = some ⟨g, 0, none⟩ ∧ w7.cell? ⟨g, i, none⟩ = some (.int .u64 x) ∧ w7.cell? ⟨kb, nb + i, none⟩ = some (.int .u64 x) ∧ S ≤ x

theorem keys_len {z : Nat → Nat} {n : Nat} {k1 k2 : List Int} (hw : (List.range' 0 (n - 0)).map (fun i => ((pf z (i + 1) : Nat) : Int)) = k1 ++ k2) : k1.length + k2.length = n := by
  have h := congrArg List.length hw
  simp at h
  omega

theorem fin_of {w wr w4 w5 w6 w7 : World} {n : Nat} {z : Nat → Nat} {S : Int} {v b r : Value} {c' : Nat} {k1 k2 : List Int} {a6 a7 : Option Addr} {c6 c7 : Nat} (hR : Row wr w.heap.size n n z) (hB : Below w.heap.size w wr)
    (D : Done (wr.alloc cObj) w4 w.heap.size n wr.heap.size (fun i => (pf z (i + 1) : Nat)) n 0 n 0 v c')
    (O : Out w4 w5 (wr.alloc cObj).heap.size w4.heap.size n S ((List.range' 0 (n - 0)).map (fun i => ((pf z (i + 1) : Nat) : Int))) b r k1 k2)
    (o6 : w6.ownsRow w5.heap.size 36 1 (.slice a6 k1.length c6) k1.length (k1.map (Value.int .u64))) (B6 : Below w5.heap.size w5 w6)
    (o7 : w7.ownsRow w6.heap.size 36 1 (.slice a7 k2.length c7) k2.length (k2.map (Value.int .u64))) (B7 : Below w6.heap.size w6 w7) :
    Fin w7 w.heap.size n S a6 k1.length a7 k2.length ∧ Below w.heap.size w w7 := by
  have hlt := hR.lt
  have zA : (wr.alloc cObj).heap.size = wr.heap.size + 1 := by simp
  have hA : Below wr.heap.size wr (wr.alloc cObj) := (Below.refl _ _).alloc (Nat.le_refl _) _
  have z4 := D.keep.size
  have z5 := O.keep.size
  have z6 := B6.size
  have bl : ∀ k, k ≤ w.heap.size → w7.heap[k]? = wr.heap[k]? := fun k hk => by
    rw [B7.block k (by omega), B6.block k (by omega), O.keep.block k (by omega) (.inl (by omega)), D.keep.block k (by omega) (.inl (by omega)), hA.block k (by omega)]
  have kc : ∀ i, i < n → w7.cell? ⟨w.heap.size, i, none⟩ = some (.int .u64 (pf z (i + 1) : Nat)) := fun i hi => (World.cell?_of_block (w := wr) (a := ⟨w.heap.size, i, none⟩) (bl _ (Nat.le_refl _))).trans (hR.at_ i hi (Nat.le_refl _))
  have hw := O.whole
  have hsum := keys_len hw
  have hso := pf_sorted z (n - 0) 0
  have gt : ∀ i, i < n → (k1 ++ k2)[i]? = some ((pf z (i + 1) : Nat) : Int) := fun i hi => by
    rw [← hw]; simp [hi]
  refine ⟨⟨hsum, fun i hi => ?_, fun i hi => ?_⟩, ⟨?_, ?_, ?_, ?_, ?_⟩⟩
  · obtain ⟨g, hg, hgl, hgc⟩ := own_cell o6 i hi
    have e := gt i (by omega)
    rw [List.getElem?_append_left hi] at e
    refine ⟨g, _, hg, (B7.cell (p := ⟨g, i, none⟩) hgl).trans (hgc.trans (by rw [List.getElem?_map, e]; rfl)), kc i (by omega), ?_⟩
    exact O.lt hso _ (List.mem_of_getElem? e)
  · obtain ⟨g, hg, hgl, hgc⟩ := own_cell o7 i hi
    have e := gt (k1.length + i) (by omega)
    rw [List.getElem?_append_right (by omega), Nat.add_sub_cancel_left] at e
    refine ⟨g, _, hg, hgc.trans (by rw [List.getElem?_map, e]; rfl), kc (k1.length + i) (by omega), ?_⟩
    exact O.ge hso _ (List.mem_of_getElem? e)
  · rw [B7.os, B6.os, O.keep.os, D.keep.os, hA.os, hB.os]
  · rw [B7.tape, B6.tape, O.keep.tape, D.keep.tape, hA.tape, hB.tape]
  · rw [B7.output, B6.output, O.keep.output, D.keep.output, hA.output, hB.output]
  · have := B7.size; have := hB.size; omega
  · intro k hk; rw [bl k (by omega), hB.block k hk]

set_option maxHeartbeats 1000000 in
theorem law_main (a0 : Option Addr) (n c0 : Nat) (a1 : Option Addr) (n1 c1 at_ : Nat) (z : Nat → Nat) (w : World) (hn : n ≤ 300) (hn1 : n1 ≤ 1024) (hat : at_ ≤ 65535) (hzb : ∀ i, z i ≤ 255)
    (h0 : 0 < n → ∃ x, a0 = some x ∧ ∀ i, i < n → w.cell? (x.add i) = some (.int .u8 (z i : Nat)))
    (h1 : 0 < n1 → ∃ x, a1 = some x ∧ ∀ i, i < n1 → ∃ q : Nat, q ≤ 255 ∧ w.cell? (x.add i) = some (.int .u8 q)) :
    Calls Yba.prog 4 #[.slice a0 n c0, .slice a1 n1 c1, .int .u16 at_] w fun e w' => e = .returned (.bool true) ∧ Below w.heap.size w w' := by
  have g0 : ¬ ((300 : Int) < (n : Int)) := by omega
  have g1 : ¬ ((1024 : Int) < (n1 : Int)) := by omega
  obtain ⟨i0, hi0, hz0, hz1, hz2⟩ := info_at info36
  have H0 := hide h0
  have H1 := hide h1
  clear h0 h1
  go_enter Yba.func4, Yba.ntmps4
  go_wp2_with (at_make; refine wpList_make_full _ rfl _ _ 35 rfl w.heap.size 36 i0 _ 1 Yba.underlying35 hi0 hz0 hz1 .i64 .i64 n n n rfl rfl rfl rfl (by rw [hz2]; omega) (by unfold maxLen; omega) (Nat.le_refl _) ?_)
  intro w2 hown hg
  have hR : Row w2 w.heap.size n 0 z := ⟨_, hown, fun i hi => absurd hi (Nat.not_lt_zero _)⟩
  have hB : Below w.heap.size w w2 := (Below.refl _ _).grown hg (Nat.le_refl _) (fun _ h => by cases h)
  clear hown hg
  go_wp2
  go_loopw [8, 35] (fun v q wr => ∃ k : Nat, k ≤ n ∧ v = .int .u64 (pf z k : Nat) ∧ q = .int .i64 k ∧ Row wr w.heap.size n k z ∧ Below w.heap.size w wr) (fun _ q _ => n - (intOf q).toNat)
  case atStart => exact ⟨0, Nat.zero_le _, rfl, rfl, hR, hB⟩
  case round =>
    obtain ⟨k, hk, rfl, rfl, hR, hB⟩ := hrel
    have hp := pf_le hzb k
    by_cases hlt : k < n
    · obtain ⟨x, rfl, hx⟩ := unhide H0 (by omega)
      have hxk := (hB.cell (p := x.add k) (World.block_lt_of_cell? w _ (hx k hlt))).trans (hx k hlt)
      obtain ⟨v, hv⟩ := hR.old hlt
      have hf := hR.free k
      have hlt' : (k : Int) < (n : Int) := by omega
      have HR := hide (hR.set hlt)
      have zb := hzb k
      obtain ⟨zk, hzk⟩ : ∃ q, z k = q := ⟨_, rfl⟩
      have hS : pf z (k + 1) = pf z k + (z k + 1) := rfl
      rw [hzk] at hxk zb hS
      obtain ⟨p, hpk⟩ : ∃ q, pf z k = q := ⟨_, rfl⟩
      rw [hpk] at hp hS ⊢
      have HS := hide hS
      clear hx hR hzk hS hpk
      go_wp2
      go_roundw
      case rel =>
        refine ⟨k + 1, by omega, ?_, by go_num, ?_, ?_⟩
        · congr 1
          have := HS.out
          omega
        · have e : ((pf z (k + 1) : Nat) : Int) = ↑p + (↑zk + 1) := by have := HS.out; omega
          have h := unhide HR
          rw [e] at h
          exact h
        · exact hB.setCell (Nat.le_refl _) _
      case measure => simp [intOf]; omega
    · obtain rfl : n = k := by omega
      obtain ⟨C, hC⟩ : ∃ q, pf z n = q := ⟨_, rfl⟩
      have hlt' : ¬ ((n : Int) < (n : Int)) := by omega
      rw [hC] at hp ⊢
      clear hC
      have E0 := env_start hR hB (unhide H1)
      have q1 : (wr.alloc cObj).cell? ⟨wr.heap.size, 0, none⟩ = some (.int .i64 ((0 : Nat) : Int)) := (cell_at (heap_alloc_new wr cObj) 0).trans rfl
      have q2 : (wr.alloc cObj).frozen? ⟨wr.heap.size, 0, none⟩ = false := free_at (heap_alloc_new wr cObj) 0
      have H8 := hide (build_any w.heap.size n wr.heap.size _ a1 n1 c1 hn hn1 n 0 n 0 (wr.alloc cObj) (by omega) (Nat.le_refl _) (Nat.zero_le _) E0 q1 q2 (by omega))
      have HE := hide (And.intro hR hB)
      clear H0 H1 E0 q1 q2 hR hB
      go_upto_region 13 with fail
      generalize ((at_ : Int) % ((C : Int) + 2)) = S
      go_upto_region 14 with (go_at_call 8; refine (unhide H8).mono ?_; rintro e w4 ⟨v4, c4, rfl, D⟩; obtain ⟨p4, rfl⟩ := D.tree.shape; have HD := hide D; clear D)
      have H9 := hide (split_any S _ _ _ _ _ _ (unhide HD).tree)
      go_upto_region 15 with (go_at_call 9; refine (unhide H9).mono ?_; rintro e w5 ⟨b5, r5, k1, k2, rfl, O⟩; obtain ⟨pb, rfl⟩ := O.before.shape; obtain ⟨pr, rfl⟩ := O.rest.shape; have HO := hide O; clear O)
      have ll := keys_len (unhide HO).whole
      have H10 := hide (ino_top _ _ _ _ _ _ (unhide HO).before (unhide HO).keep.size (by omega))
      go_upto_region 16 with (go_at_call 10; refine (unhide H10).mono ?_; rintro e w6 ⟨a6, c6, rfl, o6, B6⟩; have HO6 := hide o6; have HB6 := hide B6; clear o6 B6)
      have H11 := hide (ino_top _ _ _ _ _ _ (Rd.of_block (unhide HB6).size (fun x _ hx _ => (unhide HB6).block x (Nat.lt_of_lt_of_le hx (unhide HO).keep.size)) _ _ _ (unhide HO).rest) (Nat.le_trans (unhide HO).keep.size (unhide HB6).size) (by omega))
      go_upto_region 17 with (go_at_call 10; refine (unhide H11).mono ?_; rintro e w7 ⟨a7, c7, rfl, o7, B7⟩; have HO7 := hide o7; have HB7 := hide B7; clear o7 B7)
      obtain ⟨F, BW⟩ := fin_of HE.out.1 HE.out.2 (unhide HD) (unhide HO) (unhide HO6) (unhide HB6) (unhide HO7) (unhide HB7)
      have HW := hide BW
      have HF := hide F
      have hsum := F.sum
      clear F BW H8 H9 H10 H11 HE HD HO HO6 HB6 HO7 HB7 ll
      generalize k1.length = nb at *
      generalize k2.length = nr at *
      have hs' : (((nb : Int) + (nr : Int)) != (n : Int)) = false := by rw [← hsum]; simp
      have HSM := hide hsum
      have hnb : nb ≤ 300 := by omega
      have hnr : nr ≤ 300 := by omega
      clear hsum
      go_wp2
      go_loopw [80] (fun q wr => ∃ k : Nat, k ≤ nb ∧ q = .int .i64 k ∧ wr = w7) (fun q _ => nb - (intOf q).toNat)
      case atStart => exact ⟨0, Nat.zero_le _, rfl, rfl⟩
      case round =>
        obtain ⟨k, hk, rfl, hw⟩ := hrel
        obtain rfl := hw.symm
        by_cases hlt : k < nb
        · obtain ⟨g, x, ha, e1, e2, e3⟩ := (unhide HF).lo k hlt
          subst ha
          have l1 : (k : Int) < (nb : Int) := by omega
          have l2 : (k : Int) < (n : Int) := by have := HSM.out; omega
          have l3 : k < n := by have := HSM.out; omega
          have e3' : ¬ (S ≤ x) := by omega
          go_wp2
          go_roundw
          case rel => exact ⟨k + 1, by omega, by go_num, trivial⟩
          case measure => simp [intOf]; omega
        · have l1 : ¬ ((k : Int) < (nb : Int)) := by omega
          go_wp2
          go_loopw [99] (fun q wr => ∃ k : Nat, k ≤ nr ∧ q = .int .i64 k ∧ wr = w7) (fun q _ => nr - (intOf q).toNat)
          case atStart => exact ⟨0, Nat.zero_le _, rfl, rfl⟩
          case round =>
            obtain ⟨j, hj, rfl, hw⟩ := hrel
            obtain rfl := hw.symm
            by_cases hlt2 : j < nr
            · obtain ⟨g, x, ha, e1, e2, e3⟩ := (unhide HF).hi j hlt2
              subst ha
              have m1 : (j : Int) < (nr : Int) := by omega
              have m2 : (nb : Int) + (j : Int) < (n : Int) := by have := HSM.out; omega
              have m3 : nb + j < n := by have := HSM.out; omega
              have m4 : ¬ (x < S) := by omega
              go_wp2
              go_roundw
              case rel => exact ⟨j + 1, by omega, by go_num, trivial⟩
              case measure => simp [intOf]; omega
            · have m1 : ¬ ((j : Int) < (nr : Int)) := by omega
              go_wp2
              go_ret
              exact ⟨rfl, unhide HW⟩

end Go.Proofs.Ybulkagfu.Split

import Derived.Test.YbulkaggiBu
import Derived.Test.YbulkaggiBs
namespace Go.Proofs.Ybulkaggi.BM
open Go.RowKit Go.Proofs.Ybulkaggi Go.Sort Go.Shelf Go.Lib
open Go.Proofs.Ybulkaggi.CE (hlt tag_ne own_tag own_keep size_set grown_alloc grown_drewN info_at rgOf step_append sl_shape grown_of_drew)
set_option linter.unusedVariables false
set_option maxRecDepth 100000

set_option maxHeartbeats 4000000 in
theorem p_loop2 {QQ : Exit → Act → World → Prop} {XO XI gp m cp lo g n c j : Nat} {L : List O3} {P : List Nat} {w : World} {y0 y1 y3 y4 y5 y6 y7 y9 y12 y13 y14 y15 y16 y17 y18 y19 y20 y21 y22 y23 y24 y25 y26 y27 y28 y29 y30 y31 y32 y33 y34 y35 y36 y37 y38 y39 y40 y41 y42 y43 y44 y45 y46 y47 y48 y49 y50 y51 y52 y53 y54 y55 y56 y57 y58 y59 y60 y61 y62 : Value}
    (hm : P.length = m) (hm2 : m ≤ 256) (hl : L.length = n) (hlo : lo < m) (hj3 : j < 3) (h1 : w.cell? ⟨XO, 0, none⟩ = some (.slice (some ⟨g, 0, none⟩) n c)) (h2 : ∀ i (h : i < P.length), w.cell? ⟨gp, i, none⟩ = some (.int .i64 (P[i] : Nat))) (h3 : ∀ i (h : i < P.length), P[i] < n ∧ iD L P[i] < 3 ∧ w.cell? ⟨g, P[i] * 3 + 2, none⟩ = some (.string (itS (iD L P[i])))) (h4 : w.cell? ⟨XI, 0, none⟩ = some (.string (itS j))) (h0 : ∀ h : lo < P.length, iD L P[lo] = j)
    (hK : ∀ (t28 t29 t30 t31 t32 t33 t34 t35 t36 t37 t38 t39 t40 t41 t42 t43 t44 t45 : Value) (hi : Nat) (wx : World), lo < hi → hi ≤ m → (∀ i (h : i < P.length), lo ≤ i → i < hi → iD L P[i] = j) → (∀ h : hi < P.length, iD L P[hi] ≠ j) → wx.heap = w.heap → w.grownBy wx none → QQ (.exit 2) { tmps := List.toArray (y0 :: y1 :: (Pp XO) :: y3 :: y4 :: y5 :: y6 :: y7 :: (.slice (some ⟨gp, 0, none⟩) m cp) :: y9 :: (Pp XI) :: (.int .i64 (hi : Int)) :: y12 :: y13 :: y14 :: y15 :: y16 :: y17 :: y18 :: y19 :: y20 :: y21 :: y22 :: y23 :: y24 :: y25 :: y26 :: y27 :: (t28) :: (t29) :: (t30) :: (t31) :: (t32) :: (t33) :: (t34) :: (t35) :: (t36) :: (t37) :: (t38) :: (t39) :: (t40) :: (t41) :: (t42) :: (t43) :: (t44) :: (t45) :: y46 :: y47 :: y48 :: y49 :: y50 :: y51 :: y52 :: y53 :: y54 :: y55 :: y56 :: y57 :: y58 :: y59 :: y60 :: y61 :: y62 :: []), defers := [] } wx) :
    Code.wp Yba.prog (lpOf Yba.f14.body 1) QQ { tmps := List.toArray (y0 :: y1 :: (Pp XO) :: y3 :: y4 :: y5 :: y6 :: y7 :: (.slice (some ⟨gp, 0, none⟩) m cp) :: y9 :: (Pp XI) :: (.int .i64 (lo : Int)) :: y12 :: y13 :: y14 :: y15 :: y16 :: y17 :: y18 :: y19 :: y20 :: y21 :: y22 :: y23 :: y24 :: y25 :: y26 :: y27 :: y28 :: y29 :: y30 :: y31 :: y32 :: y33 :: y34 :: y35 :: y36 :: y37 :: y38 :: y39 :: y40 :: y41 :: y42 :: y43 :: y44 :: y45 :: y46 :: y47 :: y48 :: y49 :: y50 :: y51 :: y52 :: y53 :: y54 :: y55 :: y56 :: y57 :: y58 :: y59 :: y60 :: y61 :: y62 :: []), defers := [] } w := by
  have HK := hide hK
  have HM := hide hm
  have H1 := hide h1
  have H2 := hide h2
  have H3 := hide h3
  have H4 := hide h4
  have H0 := hide h0
  have HL := hide hl
  clear hK hm h1 h2 h3 h4 h0 hl
  conv => arg 2; whnf
  go_loopw [11] (fun q wx => ∃ hi : Nat, lo ≤ hi ∧ hi ≤ m ∧ q = .int .i64 (hi : Int) ∧ (∀ i (h : i < P.length), lo ≤ i → i < hi → iD L P[i] = j) ∧ wx.heap = w.heap ∧ w.grownBy wx none) (fun q _ => m - (intOf q).toNat)
  case atStart => exact ⟨lo, Nat.le_refl _, by omega, rfl, fun i h a b => by omega, rfl, World.grownBy.refl _ _⟩
  case round =>
    obtain ⟨hi, hi1, hi2, rfl, ha, hh, hg⟩ := hrel
    have kc : ∀ a : Addr, wr.cell? a = w.cell? a := fun a => World.cell?_of_block (by rw [hh])
    have HA := hide ha
    have HH := hide hh
    have HG := hide hg
    have KC := hide kc
    clear ha hh hg kc
    by_cases him : hi < m
    · have hip : hi < P.length := by rw [HM.out]; exact him
      obtain ⟨z1, z2, z3⟩ := H3.out hi hip
      have HZ := hide (show hi = lo ∨ lo < hi by omega)
      go_upto_region 8 with fail
      refine p_r8t (XO := XO) (XI := XI) (gp := gp) (m := m) (cp := cp) (hi := hi) (p := P[hi]) (g := g) (n := n) (c := c) (i := iD L P[hi]) (j := j) him z1 z2 hj3 ((KC.out _).trans H1.out) ((KC.out _).trans (H2.out hi hip)) ((KC.out _).trans z3) ((KC.out _).trans H4.out) ?_
      intro t28 t29 t30 t31 t32 t33 t34 t35 t36 t37 t38 t39 t40 t41 t42 nq
      by_cases e : iD L P[hi] = j
      · have X := hide (show decide (iD L P[hi] = j) = true by simp [e])
        rw [X.out]
        have N1 := hide (show ∀ i (h : i < P.length), lo ≤ i → i < hi + 1 → iD L P[i] = j from fun i h a b => by
          by_cases e2 : i = hi
          · subst e2; exact e
          · exact HA.out i h a (by omega))
        have G2 := hide (show (wr.drewN nq).heap = w.heap ∧ w.grownBy (wr.drewN nq) none from ⟨HH.out, grown_drewN HG.out nq⟩)
        clear z1 z2 z3 e X
        go_wp2
        go_roundw
        case rel => exact ⟨hi + 1, by omega, by omega, by go_num, N1.out, G2.out.1, G2.out.2⟩
        case measure => simp [intOf]; omega
      · have X := hide (show decide (iD L P[hi] = j) = false by simp [e])
        rw [X.out]
        have G2 := hide (show (wr.drewN nq).heap = w.heap ∧ w.grownBy (wr.drewN nq) none from ⟨HH.out, grown_drewN HG.out nq⟩)
        have hlt2 : lo < hi := by
          rcases HZ.out with e2 | e2
          · subst e2; exact absurd (H0.out hip) e
          · exact e2
        have E := hide e
        clear z1 z2 z3 e X
        go_wp2
        exact HK.out _ _ _ _ _ _ _ _ _ _ _ _ _ _ _ _ _ _ hi _ hlt2 hi2 HA.out (fun _ => E.out) G2.out.1 G2.out.2
    · obtain rfl : hi = m := by omega
      go_upto_region 8 with fail
      refine p_r8f (XO := XO) (XI := XI) (gp := gp) (m := hi) (cp := cp) (hi := hi) him ?_
      intro t28 t29 t30 t31 t32 t33 t34 t35 t36 t37 t38 t39 t40 t41 t42 nq
      have G2 := hide (show (wr.drewN nq).heap = w.heap ∧ w.grownBy (wr.drewN nq) none from ⟨HH.out, grown_drewN HG.out nq⟩)
      go_wp2
      exact HK.out _ _ _ _ _ _ _ _ _ _ _ _ _ _ _ _ _ _ hi _ hlo hi2 HA.out (fun h => by have := HM.out; omega) G2.out.1 G2.out.2

/-! ### What phantomUpdates leaves alone -/
structure K2 (b0 b1 : Option Nat) (w w' : World) : Prop where
  os : w'.os = w.os
  tape : w'.tape = w.tape
  output : w'.output = w.output
  size : w.heap.size ≤ w'.heap.size
  block : ∀ k, k < w.heap.size → some k ≠ b0 → some k ≠ b1 → w'.heap[k]? = w.heap[k]?
theorem phantom_ps {N : Nat} {w : World} {X : Bx} {fl : List An2} {bl al : List H} {vf vb va : Value} (h : Ps N w X fl bl al vf vb va) (hb : bl.length ≤ 256) (ha : al.length ≤ 256) :
    Calls Yba.prog 7 #[vb, va] w.drew (fun e w1 => ∃ v, ∃ Q : List An, e = .returned v ∧ Ans w1 w.heap.size v Q ∧ (Q.map (·.1)).Perm (prs bl al) ∧ K2 vb.ownBlock va.ownBlock w w1) := by
  have hN : N ≤ w.heap.size := Nat.le_of_lt (Nat.lt_of_le_of_lt h.lf (hlt h.hf))
  have ob : w.drew.ownsRow N 74 3 vb bl.length (flatH bl) := own_keep h.rb (fun _ _ => rfl)
  have oa : w.drew.ownsRow N 74 3 va al.length (flatH al) := own_keep h.ra (fun _ _ => rfl)
  have fin0 : prs bl al = [] → ∀ w1, K2 vb.ownBlock va.ownBlock w w1 → ∃ v, ∃ Q : List An, Ending.returned (.slice none 0 0) = .returned v ∧ Ans w1 w.heap.size v Q ∧ (Q.map (·.1)).Perm (prs bl al) ∧ K2 vb.ownBlock va.ownBlock w w1 := fun e w1 hk => ⟨_, [], rfl, Ans.nil _ _, by rw [e]; exact List.Perm.refl _, hk⟩
  rcases ob.2 with ⟨e0, l0⟩ | ⟨g0, c0, cur0, e0, _⟩ <;> rcases oa.2 with ⟨e1, l1⟩ | ⟨g1, c1, cur1, e1, _⟩
  · have hp : prs bl al = [] := by rw [List.length_eq_zero_iff.1 l0]; rfl
    subst e0
    subst e1
    refine (phantom_none none none 0 0 0 0 w.drew (fun w' => w' = w.drew) (fun w' => w' = w.drew) (.inl rfl) (sort_half_none _ _ _) (fun w1 h1 => by rw [h1]; exact sort_half_none _ _ _)).mono ?_
    rintro e w1 ⟨rfl, rfl⟩
    exact fin0 hp w.drew ⟨rfl, rfl, rfl, Nat.le_refl _, fun k _ _ _ => rfl⟩
  · have hp : prs bl al = [] := by rw [List.length_eq_zero_iff.1 l0]; rfl
    subst e0
    subst e1
    have hs := sort_half g1 c1 al.length N al w.drew oa rfl ha
    refine (phantom_none none (some ⟨g1, 0, none⟩) 0 0 al.length c1 w.drew (fun w' => w' = w.drew) (fun w' => At1 g1 w.drew w') (.inl rfl) (sort_half_none _ _ _) (fun w1 h1 => by
      rw [h1]
      refine hs.mono ?_
      rintro e w' ⟨he, _, _, _, _, _, ht⟩
      exact ⟨he, ht⟩)).mono ?_
    rintro e w1 ⟨rfl, ht⟩
    exact fin0 hp _ ⟨ht.os, ht.tape, ht.output, ht.size, fun k h1 _ h3 => ht.block k h1 (fun e => h3 (by rw [e]; rfl))⟩
  · have hp : prs bl al = [] := by rw [List.length_eq_zero_iff.1 l1]; exact prs_none fun u _ v hv => absurd hv (by simp)
    subst e0
    subst e1
    have hs := sort_half g0 c0 bl.length N bl w.drew ob rfl hb
    refine (phantom_none (some ⟨g0, 0, none⟩) none bl.length c0 0 0 w.drew (fun w' => At1 g0 w.drew w') (fun w' => At1 g0 w.drew w') (.inr rfl) (by
      refine hs.mono ?_
      rintro e w' ⟨he, _, _, _, _, _, ht⟩
      exact ⟨he, ht⟩) (fun w1 h1 => by
      refine (sort_half_none _ _ _).mono ?_
      rintro e w' ⟨he, rfl⟩
      exact ⟨he, h1⟩)).mono ?_
    rintro e w1 ⟨rfl, ht⟩
    exact fin0 hp _ ⟨ht.os, ht.tape, ht.output, ht.size, fun k h1 h2 _ => ht.block k h1 (fun e => h2 (by rw [e]; rfl))⟩
  · have hne : g0 ≠ g1 := fun e => h.nr g0 (by rw [e0]; rfl) (by rw [e1, e]; rfl)
    subst e0
    subst e1
    refine (phantom_loop2 g0 c0 bl.length g1 c1 al.length [] [] w.drew N bl al ob oa hne rfl rfl hb ha hN).mono ?_
    rintro e w1 ⟨v, Q, rfl, q1, q2, q3, q4⟩
    exact ⟨v, Q, rfl, q1, q2, q3.os, q3.tape, q3.output, q3.size, fun k h1 h2 h3 => q4 k h1 (fun e => h2 (by rw [e]; rfl)) (fun e => h3 (by rw [e]; rfl))⟩
def toN (x : An) : An2 := ⟨2, x.1.1, x.1.2.1, [x.1.2.2.1, x.1.2.2.2], x.2⟩
theorem enc_toN (Q : List An) : (Q.map toN).flatMap encN = Q.flatMap encA := by
  induction Q with
  | nil => rfl
  | cons x Q ih =>
    rw [List.map_cons, List.flatMap_cons, List.flatMap_cons, ih]
    rfl
theorem it_toN {w : World} {x : An} (h : Items w x) : ItN w (toN x) := h

end Go.Proofs.Ybulkaggi.BM

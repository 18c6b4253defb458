import Derived.Test.YbulkaggiB3
namespace Go.Proofs.Ybulkaggi.BM
open Go.RowKit Go.Proofs.Ybulkaggi
set_option linter.unusedVariables false
set_option maxRecDepth 100000

theorem info87 : (Yba.prog.info? 87).map (fun i => (i.zero, i.size, i.bytes)) = some (some (.agg #[.string ⟨#[]⟩, .int .i64 0, .string ⟨#[]⟩]), 3, 40) := by kernel_rfl
abbrev actsC : Array Value := #[.string ⟨#[114]⟩, .string ⟨#[114, 117]⟩, .string ⟨#[119]⟩, .string ⟨#[99]⟩, .string ⟨#[97]⟩, .string ⟨#[114, 108]⟩]
abbrev itsC : Array Value := #[.string ⟨#[120]⟩, .string ⟨#[121]⟩, .string ⟨#[122]⟩]
theorem acts_at {w : World} {b : Nat} (h : w.heap[b]? = some (.cells actsC 83 (0, 0))) {k : Nat} (hk : k < 6) : w.cell? ⟨b, k, none⟩ = some (.string (actB k)) := by
  rw [cell_at h]
  rcases (by omega : k = 0 ∨ k = 1 ∨ k = 2 ∨ k = 3 ∨ k = 4 ∨ k = 5) with rfl | rfl | rfl | rfl | rfl | rfl <;> rfl
theorem its_at {w : World} {b : Nat} (h : w.heap[b]? = some (.cells itsC 56 (0, 0))) {k : Nat} (hk : k < 3) : w.cell? ⟨b, k, none⟩ = some (.string (itS k)) := by
  rw [cell_at h]
  rcases (by omega : k = 0 ∨ k = 1 ∨ k = 2) with rfl | rfl | rfl <;> rfl

def BopsPost (w : World) (n : Nat) (l : List O3) (e : Ending) (w' : World) : Prop :=
  ∃ g, e = .returned (.slice (some ⟨g, 0, none⟩) n n) ∧ OpsAt w' g (l.map mk3) ∧ w.heap.size ≤ g ∧ g < w'.heap.size ∧ Below w.heap.size w w'

set_option maxHeartbeats 2000000 in
theorem bops_any (a : Option Addr) (n c : Nat) (l : List O3) (w : World) (hn : n ≤ 256) (hl : InS w a n l) :
    Calls Yba.prog 13 #[.slice a n c] w (BopsPost w n l) := by
  obtain ⟨i0, hi, hz0, hz1, hz2⟩ := info_at info87
  have HL := hide hl
  clear hl
  go_enter Yba.func13, Yba.ntmps13
  go_upto_region 4 with (at_make; refine wpList_make_own _ rfl _ _ 39 rfl (w.heap.size + 2) 87 i0 _ 3 Yba.underlying39 hi hz0 hz1 .i64 .i64 _ n rfl rfl rfl (by rw [hz2]; omega) (by unfold maxLen; omega) (by simp) ?_; intro w1 hown hg; have P := hide (And.intro hown hg); clear hown hg)
  obtain ⟨hown, hg⟩ := P.out
  have hA : ((w.alloc (.cells actsC 83)).alloc (.cells itsC 56)).heap[w.heap.size]? = some (.cells actsC 83 (0, 0)) := (two_new w _ _).1
  have hT : ((w.alloc (.cells actsC 83)).alloc (.cells itsC 56)).heap[w.heap.size + 1]? = some (.cells itsC 56 (0, 0)) := (two_new w _ _).2
  have hB : Below w.heap.size w ((w.alloc (.cells actsC 83)).alloc (.cells itsC 56)) := ((Below.refl _ _).alloc (Nat.le_refl _) _).alloc (by simp) _
  have hsz : ((w.alloc (.cells actsC 83)).alloc (.cells itsC 56)).heap.size = w.heap.size + 2 := by simp
  have hown' : w1.ownsRow (w.heap.size + 2) 87 3 (.slice (some ⟨w.heap.size + 2, 0, none⟩) 0 n) 0 [] := by
    rw [hsz] at hown
    exact hown
  have hb1 : Below (w.heap.size + 2) ((w.alloc (.cells actsC 83)).alloc (.cells itsC 56)) w1 := (Below.refl _ _).grown hg (by simp) (fun k e => by cases e)
  clear P hown hg
  generalize (w.alloc (.cells actsC 83)).alloc (.cells itsC 56) = wp at *
  have HA := hide hA
  have HT := hide hT
  have HB := hide hB
  have HO := hide hown'
  have H1 := hide hb1
  clear hA hT hB hown' hb1
  obtain ⟨G, hG⟩ : ∃ G, w.heap.size + 1 + 1 = G := ⟨_, rfl⟩
  have hG2 : w.heap.size + 2 = G := hG
  rw [hG]
  rw [hG2] at HO H1 hsz
  go_wp2
  go_loopw [5, 17] (fun v q wr => ∃ (k : Nat), k ≤ n ∧ v = .slice (some ⟨G, 0, none⟩) k n ∧ q = .int .i64 k ∧ wr.ownsRow G 87 3 v k (((l.take k).map mk3).flatMap opC) ∧ Below G wp wr) (fun _ q _ => n - (intOf q).toNat)
  case atStart => exact ⟨0, Nat.zero_le _, rfl, rfl, by simpa using HO.out, H1.out⟩
  case round =>
    obtain ⟨k, hk, rfl, rfl, how, hbl⟩ := hrel
    have hsz2 := hbl.size
    rw [hsz] at hsz2
    by_cases hlt : k < n
    · obtain ⟨b, off, ha, hb, hrc⟩ := HL.out.at_ (by omega)
      subst ha
      obtain ⟨⟨l0, l1, l2⟩, q0, q1, q2⟩ := hrc k (by rw [HL.out.len]; exact hlt)
      have hcell : ∀ o, wr.cell? ⟨b, o, none⟩ = w.cell? ⟨b, o, none⟩ := fun o => (hbl.cell (p := ⟨b, o, none⟩) (by show b < G; omega)).trans (HB.out.cell (p := ⟨b, o, none⟩) hb)
      replace q0 := (hcell _).trans q0
      replace q1 := (hcell _).trans q1
      replace q2 := (hcell _).trans q2
      have W : Hid (l.take (k + 1) = l.take k ++ [l[k]'(by rw [HL.out.len]; exact hlt)]) := List.take_succ_eq_append_getElem (by rw [HL.out.len]; exact hlt)
      obtain ⟨⟨s0, s1, s2⟩, hxe⟩ : ∃ r, l[k]'(by rw [HL.out.len]; exact hlt) = r := ⟨_, rfl⟩
      rw [hxe] at q0 q1 q2 W l0 l1 l2
      simp only [] at q0 q1 q2 l0 l1 l2
      obtain ⟨k0, hk0⟩ : ∃ k0, s0 % 6 = k0 := ⟨_, rfl⟩
      obtain ⟨t0, ht0⟩ : ∃ t0, s1 % 4 = t0 := ⟨_, rfl⟩
      obtain ⟨j0, hj0⟩ : ∃ j0, s2 % 3 = j0 := ⟨_, rfl⟩
      have k6 : k0 < 6 := by rw [← hk0]; exact Nat.mod_lt _ (by decide)
      have t4 : t0 < 4 := by rw [← ht0]; exact Nat.mod_lt _ (by decide)
      have j3 : j0 < 3 := by rw [← hj0]; exact Nat.mod_lt _ (by decide)
      have a0 := acts_at ((hbl.block w.heap.size (by omega)).trans HA.out) k6
      have a1 := its_at ((hbl.block (w.heap.size + 1) (by omega)).trans HT.out) j3
      have lt0 : w.heap.size < wr.heap.size := by omega
      have lt1 : w.heap.size + 1 < wr.heap.size := by omega
      have WW : Hid (((l.take (k + 1)).map mk3).flatMap opC = ((l.take k).map mk3).flatMap opC ++ opC (k0, 1 + t0, j0)) := by
        show _ = _
        rw [W.out]
        simp [mk3, hk0, ht0, hj0]
      have OW := hide how
      have BL := hide hbl
      clear hrc hxe how hbl hcell W
      generalize ((l.take k).map mk3).flatMap opC = l1 at *
      have hlt' : (k : Int) < (n : Int) := by omega
      have k6' : (k0 : Int) < 6 := by omega
      have j3' : (j0 : Int) < 3 := by omega
      have hcap : k + 1 ≤ n := hlt
      have ht' : Hid ((1 : Int) + (s1 : Int) % 4 = ((1 + t0 : Nat) : Int)) := by
        show _ = _
        omega
      have FIN : Hid (∀ (w2 : World) (o1 o2 o3 : Obj), w2.ownsRow G 87 3 (.slice (some ⟨G, 0, none⟩) (k + 1) n) (k + 1) (l1 ++ opC (k0, 1 + t0, j0)) → (((wr.alloc o1).alloc o2).alloc o3).grownBy w2 (some G) → w2.ownsRow G 87 3 (.slice (some ⟨G, 0, none⟩) (k + 1) n) (k + 1) (((l.take (k + 1)).map mk3).flatMap opC) ∧ Below G wp w2) := fun w2 o1 o2 o3 e1 e2 => by
        refine ⟨by rw [WW.out]; exact e1, ?_⟩
        exact (((BL.out.alloc (by omega) o1).alloc (by simp; omega) o2).alloc (by simp; omega) o3).grown e2 (by simp; omega) (fun x hx => by cases hx; exact Nat.le_refl _)
      clear WW BL
      rcases (by omega : k0 = 0 ∨ k0 = 1 ∨ k0 = 2 ∨ k0 = 3 ∨ k0 = 4 ∨ k0 = 5) with rfl | rfl | rfl | rfl | rfl | rfl
      · simp only [actB] at a0
        have EQ : Hid ([.string ⟨#[114]⟩, .int .i64 (1 + (s1 : Int) % 4), .string (itS j0)] = opC (0, 1 + t0, j0)) := by
          show _ = _
          rw [ht'.out]
          rfl
        go_wp2_with (at_builtin; refine wpList_append_fits _ rfl _ _ 39 rfl G 87 i0 3 Yba.underlying39 hi hz1 G k n l1 rfl (((OW.out.alloc _).alloc _).alloc _) ⟨wr.heap.size + 1 + 1, 0, none⟩ 1 1 [.string ⟨#[114]⟩, .int .i64 (1 + (s1 : Int) % 4), .string (itS j0)] rfl rfl (by have h := news_at ((wr.alloc (.cells #[.int .u8 (s0 : Int), .int .u8 (s1 : Int), .int .u8 (s2 : Int)] 85)).alloc (.cells #[.string ⟨#[114]⟩, .int .i64 (1 + (s1 : Int) % 4), .string (itS j0)] 87)) #[.string ⟨#[114]⟩, .int .i64 (1 + (s1 : Int) % 4), .string (itS j0)] 87; simpa using h) (by intro u hu; simp at hu; rcases hu with rfl | rfl | rfl <;> rfl) hcap ?_; intro w2 e1 e2; have P2 := hide (And.intro e1 e2); clear e1 e2)
        exact ⟨⟨k + 1, hcap, by simp, by simp, FIN.out w2 _ _ _ (by rw [← EQ.out]; exact P2.out.1) P2.out.2⟩, by simp [intOf]; omega⟩
      · simp only [actB] at a0
        have EQ : Hid ([.string ⟨#[114, 117]⟩, .int .i64 (1 + (s1 : Int) % 4), .string (itS j0)] = opC (1, 1 + t0, j0)) := by
          show _ = _
          rw [ht'.out]
          rfl
        go_wp2_with (at_builtin; refine wpList_append_fits _ rfl _ _ 39 rfl G 87 i0 3 Yba.underlying39 hi hz1 G k n l1 rfl (((OW.out.alloc _).alloc _).alloc _) ⟨wr.heap.size + 1 + 1, 0, none⟩ 1 1 [.string ⟨#[114, 117]⟩, .int .i64 (1 + (s1 : Int) % 4), .string (itS j0)] rfl rfl (by have h := news_at ((wr.alloc (.cells #[.int .u8 (s0 : Int), .int .u8 (s1 : Int), .int .u8 (s2 : Int)] 85)).alloc (.cells #[.string ⟨#[114, 117]⟩, .int .i64 (1 + (s1 : Int) % 4), .string (itS j0)] 87)) #[.string ⟨#[114, 117]⟩, .int .i64 (1 + (s1 : Int) % 4), .string (itS j0)] 87; simpa using h) (by intro u hu; simp at hu; rcases hu with rfl | rfl | rfl <;> rfl) hcap ?_; intro w2 e1 e2; have P2 := hide (And.intro e1 e2); clear e1 e2)
        exact ⟨⟨k + 1, hcap, by simp, by simp, FIN.out w2 _ _ _ (by rw [← EQ.out]; exact P2.out.1) P2.out.2⟩, by simp [intOf]; omega⟩
      · simp only [actB] at a0
        have EQ : Hid ([.string ⟨#[119]⟩, .int .i64 (1 + (s1 : Int) % 4), .string (itS j0)] = opC (2, 1 + t0, j0)) := by
          show _ = _
          rw [ht'.out]
          rfl
        go_wp2_with (at_builtin; refine wpList_append_fits _ rfl _ _ 39 rfl G 87 i0 3 Yba.underlying39 hi hz1 G k n l1 rfl (((OW.out.alloc _).alloc _).alloc _) ⟨wr.heap.size + 1 + 1, 0, none⟩ 1 1 [.string ⟨#[119]⟩, .int .i64 (1 + (s1 : Int) % 4), .string (itS j0)] rfl rfl (by have h := news_at ((wr.alloc (.cells #[.int .u8 (s0 : Int), .int .u8 (s1 : Int), .int .u8 (s2 : Int)] 85)).alloc (.cells #[.string ⟨#[119]⟩, .int .i64 (1 + (s1 : Int) % 4), .string (itS j0)] 87)) #[.string ⟨#[119]⟩, .int .i64 (1 + (s1 : Int) % 4), .string (itS j0)] 87; simpa using h) (by intro u hu; simp at hu; rcases hu with rfl | rfl | rfl <;> rfl) hcap ?_; intro w2 e1 e2; have P2 := hide (And.intro e1 e2); clear e1 e2)
        exact ⟨⟨k + 1, hcap, by simp, by simp, FIN.out w2 _ _ _ (by rw [← EQ.out]; exact P2.out.1) P2.out.2⟩, by simp [intOf]; omega⟩
      · simp only [actB] at a0
        have EQ : Hid ([.string ⟨#[99]⟩, .int .i64 (1 + (s1 : Int) % 4), .string ⟨#[]⟩] = opC (3, 1 + t0, j0)) := by
          show _ = _
          rw [ht'.out]
          rfl
        go_wp2_with (at_builtin; refine wpList_append_fits _ rfl _ _ 39 rfl G 87 i0 3 Yba.underlying39 hi hz1 G k n l1 rfl (((OW.out.alloc _).alloc _).alloc _) ⟨wr.heap.size + 1 + 1, 0, none⟩ 1 1 [.string ⟨#[99]⟩, .int .i64 (1 + (s1 : Int) % 4), .string ⟨#[]⟩] rfl rfl (by have h := news_at ((wr.alloc (.cells #[.int .u8 (s0 : Int), .int .u8 (s1 : Int), .int .u8 (s2 : Int)] 85)).alloc (.cells #[.string ⟨#[99]⟩, .int .i64 (1 + (s1 : Int) % 4), .string ⟨#[]⟩] 87)) #[.string ⟨#[99]⟩, .int .i64 (1 + (s1 : Int) % 4), .string ⟨#[]⟩] 87; simpa using h) (by intro u hu; simp at hu; rcases hu with rfl | rfl | rfl <;> rfl) hcap ?_; intro w2 e1 e2; have P2 := hide (And.intro e1 e2); clear e1 e2)
        exact ⟨⟨k + 1, hcap, by simp, by simp, FIN.out w2 _ _ _ (by rw [← EQ.out]; exact P2.out.1) P2.out.2⟩, by simp [intOf]; omega⟩
      · simp only [actB] at a0
        have EQ : Hid ([.string ⟨#[97]⟩, .int .i64 (1 + (s1 : Int) % 4), .string ⟨#[]⟩] = opC (4, 1 + t0, j0)) := by
          show _ = _
          rw [ht'.out]
          rfl
        go_wp2_with (at_builtin; refine wpList_append_fits _ rfl _ _ 39 rfl G 87 i0 3 Yba.underlying39 hi hz1 G k n l1 rfl (((OW.out.alloc _).alloc _).alloc _) ⟨wr.heap.size + 1 + 1, 0, none⟩ 1 1 [.string ⟨#[97]⟩, .int .i64 (1 + (s1 : Int) % 4), .string ⟨#[]⟩] rfl rfl (by have h := news_at ((wr.alloc (.cells #[.int .u8 (s0 : Int), .int .u8 (s1 : Int), .int .u8 (s2 : Int)] 85)).alloc (.cells #[.string ⟨#[97]⟩, .int .i64 (1 + (s1 : Int) % 4), .string ⟨#[]⟩] 87)) #[.string ⟨#[97]⟩, .int .i64 (1 + (s1 : Int) % 4), .string ⟨#[]⟩] 87; simpa using h) (by intro u hu; simp at hu; rcases hu with rfl | rfl | rfl <;> rfl) hcap ?_; intro w2 e1 e2; have P2 := hide (And.intro e1 e2); clear e1 e2)
        exact ⟨⟨k + 1, hcap, by simp, by simp, FIN.out w2 _ _ _ (by rw [← EQ.out]; exact P2.out.1) P2.out.2⟩, by simp [intOf]; omega⟩
      · simp only [actB] at a0
        have EQ : Hid ([.string ⟨#[114, 108]⟩, .int .i64 (1 + (s1 : Int) % 4), .string (itS j0)] = opC (5, 1 + t0, j0)) := by
          show _ = _
          rw [ht'.out]
          rfl
        go_wp2_with (at_builtin; refine wpList_append_fits _ rfl _ _ 39 rfl G 87 i0 3 Yba.underlying39 hi hz1 G k n l1 rfl (((OW.out.alloc _).alloc _).alloc _) ⟨wr.heap.size + 1 + 1, 0, none⟩ 1 1 [.string ⟨#[114, 108]⟩, .int .i64 (1 + (s1 : Int) % 4), .string (itS j0)] rfl rfl (by have h := news_at ((wr.alloc (.cells #[.int .u8 (s0 : Int), .int .u8 (s1 : Int), .int .u8 (s2 : Int)] 85)).alloc (.cells #[.string ⟨#[114, 108]⟩, .int .i64 (1 + (s1 : Int) % 4), .string (itS j0)] 87)) #[.string ⟨#[114, 108]⟩, .int .i64 (1 + (s1 : Int) % 4), .string (itS j0)] 87; simpa using h) (by intro u hu; simp at hu; rcases hu with rfl | rfl | rfl <;> rfl) hcap ?_; intro w2 e1 e2; have P2 := hide (And.intro e1 e2); clear e1 e2)
        exact ⟨⟨k + 1, hcap, by simp, by simp, FIN.out w2 _ _ _ (by rw [← EQ.out]; exact P2.out.1) P2.out.2⟩, by simp [intOf]; omega⟩
    · obtain rfl : n = k := by omega
      have hlt' : ¬ ((n : Int) < (n : Int)) := by omega
      have FIN : Hid (BopsPost w n l (.returned (.slice (some ⟨G, 0, none⟩) n n)) wr) := ⟨_, rfl, OpsAt.of_own (by rw [List.take_of_length_le (by rw [HL.out.len]; exact Nat.le_refl _)] at how; exact how) (by simp [HL.out.len]) (fun o ho => by obtain ⟨s, _, rfl⟩ := List.mem_map.1 ho; exact mk3_ok s), by omega, (how.lt _ rfl).2, HB.out.trans ⟨hbl.os, hbl.tape, hbl.output, hbl.size, fun i hi => hbl.block i (by omega)⟩⟩
      clear how hbl
      go_wp2
      go_ret
      exact FIN.out

end Go.Proofs.Ybulkaggi.BM

import Derived.Test.YbulkagdqDoorProg
import Derived.WalkKit
import Derived.WalkSpells
import Derived.WalkLawsBesides
namespace Go.Proofs.YbulkagdqDoor
open Go.RowKit

theorem hide {p : Prop} (h : p) : Hid p := h
theorem unhide {p : Prop} (h : Hid p) : p := h

theorem bit_nsec (n : Int) (h0 : 0 ≤ n) (h1 : n < 1000000000) : bits .and .u64 n 1073741823 = n := by
  rw [u64_and n 1073741823 h0 (by omega) (by omega) (by omega)]
  have := Nat.and_two_pow_sub_one_eq_mod n.toNat 30
  simp at this ⊢
  rw [this]; omega
theorem bit_mono (n : Int) (h0 : 0 ≤ n) (h1 : n < 1000000000) : (bits .and .u64 n 9223372036854775808 != 0) = false := by
  rw [u64_and n _ h0 (by omega) (by omega) (by omega)]
  have h := nat_bit 63 n.toNat
  have e : n.toNat / 2 ^ 63 = 0 := Nat.div_eq_of_lt (by omega)
  rw [e] at h
  simp at h ⊢
  exact h
theorem bit_or0 (n : Int) (h0 : 0 ≤ n) (h1 : n < 1000000000) : bits .or .u64 0 n = n := by
  rw [u64_or 0 n (by omega) (by omega) h0 (by omega)]
  simp; omega
theorem bit_andNot0 : bits .andNot .u64 0 1073741823 = 0 := by decide

set_option maxHeartbeats 400000 in
theorem nsec_any (b o : Nat) (n : Int) (w : World) (h : w.cell? ⟨b, o, none⟩ = some (.int .u64 n)) (h0 : 0 ≤ n) (h1 : n < 1000000000) :
    Calls Ybad.prog 20 #[.pointer (some ⟨b, o, none⟩)] w fun e w' => e = .returned (.int .i32 n) ∧ w' = w := by
  have hb := bit_nsec n h0 h1
  go_enter Ybad.func20, Ybad.ntmps20
  go_wp2
  go_ret
  exact ⟨rfl, rfl⟩

set_option maxHeartbeats 400000 in
theorem sec_any (b o : Nat) (n s : Int) (w : World) (h : w.cell? ⟨b, o, none⟩ = some (.int .u64 n)) (hs : w.cell? ⟨b, o + 1, none⟩ = some (.int .i64 s)) (h0 : 0 ≤ n) (h1 : n < 1000000000) :
    Calls Ybad.prog 32 #[.pointer (some ⟨b, o, none⟩)] w fun e w' => e = .returned (.int .i64 s) ∧ w' = w := by
  have hb := bit_mono n h0 h1
  go_enter Ybad.func32, Ybad.ntmps32
  go_wp2
  go_ret
  exact ⟨rfl, rfl⟩

set_option maxHeartbeats 400000 in
theorem addSec_any (b : Nat) (n d : Int) (w : World) (h : w.cell? ⟨b, 0, none⟩ = some (.int .u64 n)) (hs : w.cell? ⟨b, 1, none⟩ = some (.int .i64 0)) (hf : w.frozen? ⟨b, 1, none⟩ = false) (h0 : 0 ≤ n) (h1 : n < 1000000000) (hd1 : -9223372036854775808 ≤ d) (hd2 : d ≤ 9223372036854775807) :
    Calls Ybad.prog 21 #[.pointer (some ⟨b, 0, none⟩), .int .i64 d] w fun e w' => e = .returned (.tuple #[]) ∧ w' = w.setCell ⟨b, 1, none⟩ (.int .i64 d) := by
  have hb := bit_mono n h0 h1
  go_enter Ybad.func21, Ybad.ntmps21
  go_wp2

  all_goals (go_end0; exact ⟨rfl, rfl⟩)

theorem bcell {W w1 : World} (hb : Below W.heap.size W w1) : (∀ b o, b < W.heap.size → w1.cell? ⟨b, o, none⟩ = W.cell? ⟨b, o, none⟩) ∧ (∀ b o, b < W.heap.size → w1.frozen? ⟨b, o, none⟩ = W.frozen? ⟨b, o, none⟩) :=
  ⟨fun b o h => hb.cell (p := ⟨b, o, none⟩) h, fun b o h => hb.frozen (p := ⟨b, o, none⟩) h⟩

/-- The seconds and the nanoseconds of 'time.Time{}.Add(d)'. -/
def tSec (d : Int) : Int := d / 1000000000
def tNs (d : Int) : Int := d % 1000000000
def tmV (s n : Int) : Value := .agg #[.int .u64 n, .int .i64 s, .pointer none]
theorem tNs_bd (d : Int) : 0 ≤ tNs d ∧ tNs d < 1000000000 := by unfold tNs; omega

theorem tq_neg (d : Int) (h : d < 0) : d.tdiv 1000000000 = -((-d) / 1000000000) ∧ d.tmod 1000000000 = -((-d) % 1000000000) := by
  obtain ⟨k, rfl⟩ : ∃ k : Nat, d = -(k : Int) := ⟨d.natAbs, by omega⟩
  rw [Int.neg_tdiv, Int.neg_tmod, Int.neg_neg]
  exact ⟨by rw [Int.tdiv_eq_ediv_of_nonneg (by omega)], by rw [Int.tmod_eq_emod_of_nonneg (by omega)]⟩

set_option maxHeartbeats 1000000 in
theorem add_any (d : Int) (w : World) (hd1 : -9223372036854775808 ≤ d) (hd2 : d ≤ 9223372036854775807) :
    Calls Ybad.prog 9 #[tmV 0 0, .int .i64 d] w fun e w' => e = .returned (tmV (tSec d) (tNs d)) ∧ Below w.heap.size w w' := by
  unfold tmV
  have hn := tNs_bd d
  by_cases h : 0 ≤ d
  · have e1 : Hid (tSec d = d / 1000000000) := rfl
    have e2 : Hid (tNs d = d % 1000000000) := rfl
    have b1 := bit_nsec 0 (by omega) (by omega)
    have b2 := bit_or0 (d % 1000000000) (by omega) (by omega)
    have b3 := bit_mono (d % 1000000000) (by omega) (by omega)
    have b4 := bit_andNot0
    go_enter Ybad.func9, Ybad.ntmps9
    go_wp2_with (first | (go_at_call 20; refine (nsec_any _ _ 0 _ (by simp) (by omega) (by omega)).mono ?_; rintro e w' ⟨rfl, rfl⟩) | (go_at_call 21; refine (addSec_any _ (d % 1000000000) (d / 1000000000) _ (by simp) (by simp) (by simp) (by omega) (by omega) (by omega) (by omega)).mono ?_; rintro e w' ⟨rfl, rfl⟩))
    refine bodyPost_ret (v := .agg #[.int .u64 (d % 1000000000), .int .i64 (d / 1000000000), .pointer none]) (by simp [results, Ybad.results9, go_sem]) rfl ⟨rfl, ?_⟩
    exact ((Below.refl _ _).alloc (Nat.le_refl _) _).alloc (by simp) _
  · obtain ⟨hq, hr⟩ := tq_neg d (by omega)
    have e1 : tSec d = d / 1000000000 := rfl
    have e2 : tNs d = d % 1000000000 := rfl
    obtain ⟨q, hqe⟩ : ∃ q : Int, q = (-d) / 1000000000 := ⟨_, rfl⟩
    obtain ⟨r, hre⟩ : ∃ r : Int, r = (-d) % 1000000000 := ⟨_, rfl⟩
    rw [← hqe] at hq
    rw [← hre] at hr
    have q0 : 0 ≤ q := by omega
    have q1 : q ≤ 9223372036 := by omega
    have r0 : 0 ≤ r := by omega
    have r1 : r < 1000000000 := by omega
    have b1 := bit_nsec 0 (by omega) (by omega)
    have b4 := bit_andNot0
    by_cases hr0 : r = 0
    · subst hr0
      have E1 : Hid (tSec d = -q) := by show tSec d = -q; omega
      have E2 : Hid (tNs d = 0) := by show tNs d = 0; omega
      clear hn e1 e2 hqe hre
      have b2 := bit_or0 0 (by omega) (by omega)
      have b3 := bit_mono 0 (by omega) (by omega)
      go_enter Ybad.func9, Ybad.ntmps9
      go_wp2_with (first | (go_at_call 20; refine (nsec_any _ _ 0 _ (by simp) (by omega) (by omega)).mono ?_; rintro e w' ⟨rfl, rfl⟩) | (go_at_call 21; refine (addSec_any _ 0 (-q) _ (by simp) (by simp) (by simp) (by omega) (by omega) (by omega) (by omega)).mono ?_; rintro e w' ⟨rfl, rfl⟩))
      rw [E1.out, E2.out]
      refine bodyPost_ret (v := .agg #[.int .u64 0, .int .i64 (-q), .pointer none]) (by simp [results, Ybad.results9, go_sem]) rfl ⟨rfl, ?_⟩
      exact ((Below.refl _ _).alloc (Nat.le_refl _) _).alloc (by simp) _
    · have E1 : Hid (tSec d = -q - 1) := by show tSec d = -q - 1; omega
      have E2 : Hid (tNs d = -r + 1000000000) := by show tNs d = -r + 1000000000; omega
      have r2 : 0 < r := by omega
      clear hn e1 e2 hqe hre hr0
      have b2 := bit_or0 (-r + 1000000000) (by omega) (by omega)
      have b3 := bit_mono (-r + 1000000000) (by omega) (by omega)
      go_enter Ybad.func9, Ybad.ntmps9
      go_wp2_with (first | (go_at_call 20; refine (nsec_any _ _ 0 _ (by simp) (by omega) (by omega)).mono ?_; rintro e w' ⟨rfl, rfl⟩) | (go_at_call 21; refine (addSec_any _ (-r + 1000000000) (-q - 1) _ (by simp) (by simp) (by simp) (by omega) (by omega) (by omega) (by omega)).mono ?_; rintro e w' ⟨rfl, rfl⟩))
      rw [E1.out, E2.out]
      refine bodyPost_ret (v := .agg #[.int .u64 (-r + 1000000000), .int .i64 (-q - 1), .pointer none]) (by simp [results, Ybad.results9, go_sem]) rfl ⟨rfl, ?_⟩
      exact ((Below.refl _ _).alloc (Nat.le_refl _) _).alloc (by simp) _

set_option maxHeartbeats 1000000 in
theorem aat_any (j : Int) (w : World) (h0 : 0 ≤ j) (h1 : j < 1000000000) :
    Calls Ybad.prog 6 #[.int .i64 j] w fun e w' => e = .returned (tmV 0 j) ∧ Below w.heap.size w w' := by
  have E1 : Hid (tSec j = 0) := by show tSec j = 0; unfold tSec; omega
  have E2 : Hid (tNs j = j) := by show tNs j = j; unfold tNs; omega
  go_enter Ybad.func6, Ybad.ntmps6
  go_wp2_with fail
  refine (add_any j _ (by omega) (by omega)).mono ?_
  rintro e w1 ⟨rfl, hb⟩
  rw [E1.out, E2.out]
  unfold tmV
  obtain ⟨hc, hf⟩ := bcell hb
  go_wp2
  refine bodyPost_ret (v := .agg #[.int .u64 j, .int .i64 0, .pointer none]) (by simp [results, Ybad.results6, go_sem, hc]) rfl ⟨rfl, ?_⟩
  exact (((((Below.refl _ _).alloc (Nat.le_refl _) _).trans (hb.mono (by simp))).setCell (by simp) _).setCell (by simp) _).setCell (by simp) _

theorem bit_self (n : Int) (h0 : 0 ≤ n) (h1 : n < 1000000000) : bits .and .u64 n n = n := by
  rw [u64_and n n h0 (by omega) h0 (by omega)]
  simp; omega

set_option maxHeartbeats 1000000 in
theorem equal_same (s n : Int) (w : World) (h0 : 0 ≤ n) (h1 : n < 1000000000) :
    Calls Ybad.prog 30 #[tmV s n, tmV s n] w fun e w' => e = .returned (.bool true) ∧ w' = (w.alloc (.cells #[.int .u64 n, .int .i64 s, .pointer none] 28)).alloc (.cells #[.int .u64 n, .int .i64 s, .pointer none] 28) := by
  unfold tmV
  have b1 := bit_self n h0 h1
  have b3 := bit_mono n h0 h1
  go_enter Ybad.func30, Ybad.ntmps30
  go_wp2_with (first | (go_at_call 20; refine (nsec_any _ _ n _ (by simp) (by omega) (by omega)).mono ?_; rintro e w' ⟨rfl, rfl⟩) | (go_at_call 32; refine (sec_any _ _ n s _ (by simp) (by simp) (by omega) (by omega)).mono ?_; rintro e w' ⟨rfl, rfl⟩))
  go_ret
  exact ⟨rfl, rfl⟩

end Go.Proofs.YbulkagdqDoor

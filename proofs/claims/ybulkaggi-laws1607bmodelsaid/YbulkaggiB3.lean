import Derived.Test.YbulkaggiB2
import Derived.Test.YbulkaggiE2
namespace Go.Proofs.Ybulkaggi.BM
open Go.RowKit Go.Proofs.Ybulkaggi
set_option linter.unusedVariables false
set_option maxRecDepth 100000

def accB (o : O3) (t j : Nat) : Bool := rdB o t j || wrB o t j
def touch (L : List O3) (t j : Nat) : Bool := L.any (fun o => accB o t j)

theorem touch_any {g n cap t j : Nat} {L : List O3} (w : World) (h : OpsAt w g L) (hn : L.length = n) (hn2 : n ≤ 256) (hj : j < 3) :
    Calls Yba.prog 34 #[.slice (some ⟨g, 0, none⟩) n cap, .int .i64 (t : Int), .string (itS j)] w fun e w' => e = .returned (.bool (touch L t j)) ∧ w' = w := by
  have CR := hide (br_at (cap := cap) (t := t) w h hn hj)
  have CW := hide (bw_at (cap := cap) (t := t) w h hn hj)
  have HN := hide hn
  clear h hn
  go_enter Yba.func34, Yba.ntmps34
  go_wp2
  go_loopw [7] (fun q wx => ∃ p : Nat, p ≤ n ∧ q = .int .i64 (p : Int) ∧ wx = w ∧ ∀ i (hi : i < L.length), i < p → accB L[i] t j = false) (fun q _ => n - (intOf q).toNat)
  case atStart => exact ⟨0, Nat.zero_le _, rfl, rfl, fun i hi h => absurd h (Nat.not_lt_zero _)⟩
  case round =>
    obtain ⟨p, hp, rfl, rfl, hI⟩ := hrel
    have HI := hide hI
    clear hI
    by_cases hpn : p < n
    · have hpn' : (p : Int) < (n : Int) := by omega
      obtain ⟨o, ho⟩ : ∃ o, L[p]? = some o := ⟨_, List.getElem?_eq_getElem (by rw [HN.out]; exact hpn)⟩
      have C1 := hide (CR.out p o ho)
      have C2 := hide (CW.out p o ho)
      have HO := hide ho
      clear ho CR CW
      cases hr : rdB o t j with
      | true =>
        rw [hr] at C1
        have HT : Hid (touch L t j = true) := List.any_eq_true.2 ⟨o, List.mem_of_getElem? HO.out, by simp [accB, hr]⟩
        clear hr
        go_wp2_with (go_at_call 36; refine C1.out.mono ?_; rintro e w' ⟨rfl, hw⟩; obtain rfl := hw.symm)
        go_ret
        exact ⟨by rw [HT.out]; rfl, rfl⟩
      | false =>
        rw [hr] at C1
        cases hw : wrB o t j with
        | true =>
          rw [hw] at C2
          have HT : Hid (touch L t j = true) := List.any_eq_true.2 ⟨o, List.mem_of_getElem? HO.out, by simp [accB, hw]⟩
          clear hr hw
          go_wp2_with (first | (go_at_call 36; refine C1.out.mono ?_; rintro e w' ⟨rfl, hw⟩; obtain rfl := hw.symm) | (go_at_call 35; refine C2.out.mono ?_; rintro e w' ⟨rfl, hw⟩; obtain rfl := hw.symm))
          go_ret
          exact ⟨by rw [HT.out]; rfl, rfl⟩
        | false =>
          rw [hw] at C2
          have HS : Hid (∀ i (hi : i < L.length), i < p + 1 → accB L[i] t j = false) := fun i hi h => by
            by_cases e : i = p
            · subst e
              rw [(List.getElem?_eq_some_iff.1 HO.out).2]
              simp [accB, hr, hw]
            · exact HI.out i hi (by omega)
          clear hr hw
          go_wp2_with (first | (go_at_call 36; refine C1.out.mono ?_; rintro e w' ⟨rfl, hw⟩; obtain rfl := hw.symm) | (go_at_call 35; refine C2.out.mono ?_; rintro e w' ⟨rfl, hw⟩; obtain rfl := hw.symm))
          exact ⟨⟨p + 1, hpn, by simp, trivial, HS.out⟩, by simp [intOf]; omega⟩
    · have hpn' : ¬ (p : Int) < (n : Int) := by omega
      have HT : Hid (touch L t j = false) := by
        show touch L t j = false
        unfold touch
        rw [List.any_eq_false]
        intro o ho
        obtain ⟨i, hi, rfl⟩ := List.mem_iff_getElem.1 ho
        have := HI.out i hi (by rw [HN.out] at hi; omega)
        simp [this]
      go_wp2
      go_ret
      exact ⟨by rw [HT.out]; rfl, rfl⟩

/-! ### The steps that came in -/
structure InS (w : World) (a : Option Addr) (n : Nat) (l : List O3) : Prop where
  len : l.length = n
  at_ : 0 < n → ∃ b off, a = some ⟨b, off, none⟩ ∧ b < w.heap.size ∧ ∀ i (hi : i < l.length), (l[i].1 < 256 ∧ l[i].2.1 < 256 ∧ l[i].2.2 < 256) ∧ w.cell? ⟨b, off + i * 3, none⟩ = some (.int .u8 (l[i].1 : Nat)) ∧ w.cell? ⟨b, off + i * 3 + 1, none⟩ = some (.int .u8 (l[i].2.1 : Nat)) ∧ w.cell? ⟨b, off + i * 3 + 2, none⟩ = some (.int .u8 (l[i].2.2 : Nat))
def mk3 (s : O3) : O3 := (s.1 % 6, 1 + s.2.1 % 4, s.2.2 % 3)
def opC (o : O3) : List Value := [.string (actB o.1), .int .i64 (o.2.1 : Nat), .string (itB o)]
theorem mk3_ok (s : O3) : OkO (mk3 s) := ⟨Nat.mod_lt _ (by decide), by simp [mk3], by have := Nat.mod_lt s.2.1 (show 0 < 4 by decide); simp [mk3]; omega, Nat.mod_lt _ (by decide)⟩
theorem OpsAt.of_own {w : World} {base g n cp : Nat} {L : List O3} (ho : w.ownsRow base 87 3 (.slice (some ⟨g, 0, none⟩) n cp) n (L.flatMap opC)) (hl : L.length = n) (hok : ∀ o ∈ L, OkO o) : OpsAt w g L := by
  have fl : ∀ (M : List O3) (i : Nat) (h : i < M.length), (M.flatMap opC)[i * 3]? = some (.string (actB M[i].1)) ∧ (M.flatMap opC)[i * 3 + 1]? = some (.int .i64 (M[i].2.1 : Nat)) ∧ (M.flatMap opC)[i * 3 + 2]? = some (.string (itB M[i])) := by
    intro M
    induction M with
    | nil => intro i h; simp at h
    | cons o M ih =>
      intro i h
      cases i with
      | zero => simp [opC]
      | succ i =>
        have := ih i (by simpa using h)
        have e1 : (i + 1) * 3 = i * 3 + 1 + 1 + 1 := by omega
        rw [e1]
        simpa [opC] using this
  refine ⟨fun i hi => hok _ (List.getElem_mem hi), fun i hi => ?_, fun i hi => ?_, fun i hi => ?_⟩
  · rw [ho.cellAt _ (by omega)]; exact (fl L i hi).1
  · rw [ho.cellAt _ (by omega)]; exact (fl L i hi).2.1
  · rw [ho.cellAt _ (by omega)]; exact (fl L i hi).2.2
end Go.Proofs.Ybulkaggi.BM

import Derived.Test.YbulkagfuC1
import Derived.Deep.RegionHeld3
import Derived.Deep.DeepCutAuto
namespace Go.Proofs.Ybulkagfu.Split
open Go.RowKit
set_option linter.unusedVariables false
set_option maxRecDepth 100000

theorem info36 : (Yba.prog.info? 36).map (fun i => (i.zero, i.size, i.bytes)) = some (some (.int .u64 0), 1, 8) := by kernel_rfl
theorem info_at {P : Program} {t : TypeId} {z : Value} {s b : Nat} (h : (P.info? t).map (fun i => (i.zero, i.size, i.bytes)) = some (some z, s, b)) : ∃ i, P.info? t = some i ∧ i.zero = some z ∧ i.size = s ∧ i.bytes = b := by
  obtain ⟨i, h1, h2⟩ := Option.map_eq_some_iff.1 h
  simp only [Prod.mk.injEq] at h2
  exact ⟨i, h1, h2.1, h2.2.1, h2.2.2⟩
theorem own_shape {w : World} {base : Nat} {e : TypeId} {size : Nat} {v : Value} {n : Nat} {xs : List Value} (h : w.ownsRow base e size v n xs) : ∃ a c, v = .slice a n c := by
  rcases h.2 with ⟨rfl, rfl⟩ | ⟨g, cap, cur, rfl, _⟩
  · exact ⟨_, _, rfl⟩
  · exact ⟨_, _, rfl⟩

theorem ino_nil (a : Option Addr) (n c : Nat) (w : World) : Calls Yba.prog 10 #[.pointer none, .slice a n c] w fun e w' => e = .returned (.slice a n c) ∧ w' = w := by
  go_enter Yba.func10, Yba.ntmps10
  go_wp2
  go_ret
  exact ⟨rfl, rfl⟩

theorem ino_any : ∀ (d lo hi base : Nat) (v : Value) (ks : List Int) (w : World) (ms : Value) (n : Nat) (xs : List Value), Rd w lo hi d v ks → hi ≤ base → base ≤ w.heap.size → w.ownsRow base 36 1 ms n xs → n + ks.length ≤ 300 →
    Calls Yba.prog 10 #[v, ms] w fun e w' => ∃ v', e = .returned v' ∧ w'.ownsRow base 36 1 v' (n + ks.length) (xs ++ ks.map (Value.int .u64)) ∧ Below base w w' := by
  intro d
  induction d with
  | zero =>
    rintro lo hi base v ks w ms n xs ⟨rfl, rfl⟩ h1 h2 how h3
    obtain ⟨a, c, rfl⟩ := own_shape how
    refine (ino_nil a n c w).mono ?_
    rintro e w' ⟨rfl, rfl⟩
    exact ⟨_, rfl, by simpa using how, Below.refl _ _⟩
  | succ d ih =>
    rintro lo hi base v ks w ms n xs (⟨rfl, rfl⟩ | ⟨tb, mb, l, r, kl, k, kr, rfl, g1, g2, g3, g4, g5, g6, c1, c2, c3, c4, hl, hr, rfl⟩) h1 h2 how h3
    · obtain ⟨a, c, rfl⟩ := own_shape how
      refine (ino_nil a n c w).mono ?_
      rintro e w' ⟨rfl, rfl⟩
      exact ⟨_, rfl, by simpa using how, Below.refl _ _⟩
    · simp only [List.length_append, List.length_cons] at h3
      obtain ⟨a, c, rfl⟩ := own_shape how
      obtain ⟨i0, hi0, hz0, hz1, hz2⟩ := info_at info36
      obtain ⟨lp, rfl⟩ := hl.shape
      obtain ⟨rp, rfl⟩ := hr.shape
      have H1 := hide (ih lo hi base _ kl w _ n xs hl h1 h2 how (by omega))
      have HC := hide (fun (w1 : World) (hb : Below base w w1) => And.intro ((hb.cell (p := ⟨tb, 1, none⟩) (by show tb < base; omega)).trans c1) (And.intro ((hb.cell (p := ⟨mb, 1, none⟩) (by show mb < base; omega)).trans c4) ((hb.cell (p := ⟨tb, 3, none⟩) (by show tb < base; omega)).trans c3)))
      have H2 := hide (fun (w3 : World) (hb : Below base w w3) (v3 : Value) (x3 : List Value) (ho : w3.ownsRow base 36 1 v3 (n + kl.length + 1) x3) => ih lo hi base (.pointer rp) kr w3 v3 (n + kl.length + 1) x3 (Rd.of_block hb.size (fun x _ b _ => hb.block x (by omega)) d _ kr hr) h1 (Nat.le_trans h2 hb.size) ho (by omega))
      clear ih hl hr how
      go_enter Yba.func10, Yba.ntmps10
      go_upto_region 4 with (go_at_call 10; refine (unhide H1).mono ?_; rintro e w1 ⟨v1, rfl, ho1, hb1⟩; obtain ⟨a1, c1', rfl⟩ := own_shape ho1; obtain ⟨d1, d4, d3⟩ := unhide HC w1 hb1; have HO := hide ho1; have HB := hide hb1; have le1 := Nat.le_trans h2 hb1.size; clear ho1 hb1)
      have ho1 := unhide HO
      go_upto_region 5 with (at_builtin; refine wpList_append_own _ rfl _ _ 35 rfl base 36 i0 (.int .u64 0) 1 8 Yba.underlying35 hi0 hz0 hz1 hz2 rfl (by decide) _ _ _ rfl (ho1.alloc _) ⟨w1.heap.size, 0, none⟩ 1 1 [.int .u64 k] rfl rfl ?c1 ?c2 ?c3 ?c4 ?c5 ?_)
      case c1 => exact cell_one_new w1 (.int .u64 k) 36
      case c2 => intro u hu; simp at hu; subst hu; rfl
      case c3 => unfold maxLen; omega
      case c4 => omega
      case c5 => simp; omega
      intro v2 w2 ho2 hg2 _
      have hb2 : Below base w w2 := ((unhide HB).alloc le1 _).grown hg2 (by simp; omega) (fun x hx => (ho1.lt x hx).1)
      obtain ⟨e1, e4, e3⟩ := unhide HC w2 hb2
      obtain ⟨a2, c2', rfl⟩ := own_shape ho2
      have HF := hide (unhide H2 w2 hb2 _ _ ho2)
      have HB2 := hide hb2
      clear hb2 ho2 hg2 H1 H2 HC HO ho1
      go_wp2_with (go_at_call 10; refine (unhide HF).mono ?_; rintro e w3 ⟨v3, rfl, ho3, hb3⟩; obtain ⟨a3, c3', rfl⟩ := own_shape ho3; have HO3 := hide ho3; have HB3 := hide hb3; clear ho3 hb3)
      go_ret
      refine ⟨_, rfl, ?_, (unhide HB2).trans (unhide HB3)⟩
      have h := unhide HO3
      have e1 : n + (kl ++ k :: kr).length = n + kl.length + 1 + kr.length := by simp; omega
      rw [e1]
      simpa using h

end Go.Proofs.Ybulkagfu.Split

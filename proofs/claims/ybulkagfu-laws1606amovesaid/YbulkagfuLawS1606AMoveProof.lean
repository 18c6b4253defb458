import Derived.Test.YbulkagfuRows
import Derived.Test.YbulkagfuN00
import Derived.Test.YbulkagfuN01
import Derived.Test.YbulkagfuN10
import Derived.Test.YbulkagfuN11
import Derived.Test.YbulkagfuP00
import Derived.Test.YbulkagfuP01
import Derived.Test.YbulkagfuP10
import Derived.Test.YbulkagfuP11
import Derived.WalkKit
import Derived.ProofKit
import Derived.OpenShut
import Derived.ShutString
import Derived.ChangeOld
import Derived.Below
namespace Go.Proofs.Ybulkagfu.lawS1606AMove
open Go.ChangeShapes Go.WideShapes Go.ChangeAt Go.RowKit
open Go.ChangeMaps (open_string shut_string)
set_option linter.unusedVariables false

theorem own : ownKnob Yba.prog.godebug = none := by kernel_rfl
theorem laidOut : laidOutB Yba.prog = true := by kernel_rfl

/-- WHAT THE WALK IS TOLD OF A SLICE OF INTEGERS THAT CAME IN: it is nil; or it leads to a row of 'cap' cells, the numbers 'zs' (the first 'len' are its elements, the rest its spare room), each fitting its kind. -/
def IsRow (k : IntKind) (w : World) (a : Option Addr) (len cap : Nat) (zs : List Int) : Prop :=
  (a = none ∧ len = 0 ∧ cap = 0 ∧ zs = []) ∨
  ∃ x, a = some x ∧ len ≤ cap ∧ cap ≤ maxLen ∧ zs.length = cap ∧ (∀ i, i < zs.length → w.cell? (x.add i) = some (.int k (zs.getD i 0))) ∧ ∀ n ∈ zs, (Lit.int k n).wf = true

theorem IsRow.nil {k : IntKind} {w : World} {a : Option Addr} {len cap : Nat} {zs : List Int} (h : IsRow k w a len cap zs) : a = none → len = 0 ∧ cap = 0 := by
  rcases h with ⟨_, h1, h2, _⟩ | ⟨x, h1, _⟩
  · exact fun _ => ⟨h1, h2⟩
  · intro h; rw [h1] at h; cases h

theorem IsRow.cells {w : World} {a : Option Addr} {len cap : Nat} {zs : List Int} (h : IsRow .u8 w a len cap zs) : ∀ x, a = some x → ∀ i, i < len → w.cell? (x.add i) = some (.int .u8 (zs.getD i 0)) := by
  rcases h with ⟨h0, h1, h2, _⟩ | ⟨x, h1, h2, _, h4, h5, _⟩
  · intro x hx; rw [h0] at hx; cases hx
  · intro y hy i hi
    rw [h1] at hy; cases hy
    exact h5 i (by omega)

set_option maxRecDepth 100000 in
theorem long (a0 a1 a2 : Int) (a3 : Option Addr) (n3 c3 : Nat) (a4 a5 a6 : Int) (a7 : Option Addr) (n7 c7 : Nat) (w : World) (h : 1024 < n3) :
    Calls Yba.prog 3 #[.int .i64 a0, .int .i64 a1, .int .i64 a2, .slice a3 n3 c3, .int .i64 a4, .int .i64 a5, .int .i64 a6, .slice a7 n7 c7] w fun e w' => e = .returned (.bool true) ∧ Below w.heap.size w w' := by
  have h' : (1024 : Int) < (n3 : Int) := by omega
  go_enter Yba.func3, Yba.ntmps3
  go_wp2
  go_ret
  exact ⟨rfl, Below.refl _ _⟩

set_option maxRecDepth 100000 in
theorem long' (a0 a1 a2 : Int) (a3 : Option Addr) (n3 c3 : Nat) (a4 a5 a6 : Int) (a7 : Option Addr) (n7 c7 : Nat) (w : World) (g : n3 ≤ 1024) (h : 1024 < n7) :
    Calls Yba.prog 3 #[.int .i64 a0, .int .i64 a1, .int .i64 a2, .slice a3 n3 c3, .int .i64 a4, .int .i64 a5, .int .i64 a6, .slice a7 n7 c7] w fun e w' => e = .returned (.bool true) ∧ Below w.heap.size w w' := by
  have g' : ¬ ((1024 : Int) < (n3 : Int)) := by omega
  have h' : (1024 : Int) < (n7 : Int) := by omega
  go_enter Yba.func3, Yba.ntmps3
  go_wp2
  go_ret
  exact ⟨rfl, Below.refl _ _⟩

/-! ### STEP 1: THE WALK: the Go text returns true, AND WRITES NOTHING THAT WAS THERE: 'Below w.heap.size w w'' (Derived/Below.lean: '.refl', '.alloc', '.drew', '.setCell' at a new block, '.trans'). Open each 'IsRow' by 'rcases' AHEAD of 'go_enter'; part every test ahead of the walk. -/
theorem walk (a0 : Int) (a1 : Int) (a2 : Int) (a3 : Option Addr) (len3 cap3 : Nat) (z3 : List Int) (a4 : Int) (a5 : Int) (a6 : Int) (a7 : Option Addr) (len7 cap7 : Nat) (z7 : List Int) (w : World) (w0 : (Lit.int .i64 a0).wf = true) (w1 : (Lit.int .i64 a1).wf = true) (w2 : (Lit.int .i64 a2).wf = true) (w3 : IsRow .u8 w a3 len3 cap3 z3) (w4 : (Lit.int .i64 a4).wf = true) (w5 : (Lit.int .i64 a5).wf = true) (w6 : (Lit.int .i64 a6).wf = true) (w7 : IsRow .u8 w a7 len7 cap7 z7) :
    Calls Yba.prog 3 #[.int .i64 a0, .int .i64 a1, .int .i64 a2, .slice a3 len3 cap3, .int .i64 a4, .int .i64 a5, .int .i64 a6, .slice a7 len7 cap7] w fun e w' => e = .returned (.bool true) ∧ Below w.heap.size w w' := by
  by_cases g3 : len3 ≤ 1024
  · by_cases g7 : len7 ≤ 1024
    · have z3n := w3.nil
      have z3c := w3.cells
      have z7n := w7.nil
      have z7c := w7.cells
      rcases Nat.eq_zero_or_pos len3 with e3 | e3 <;> rcases Nat.eq_zero_or_pos len7 with e7 | e7 <;> rcases Int.lt_or_le a4 0 with e4 | e4
      · exact law_neg_00 a0 a1 a2 a3 len3 cap3 z3 a4 a5 a6 a7 len7 cap7 z7 w z3n z3c z7n z7c g3 e3 g7 e7 e4
      · exact law_pos_00 a0 a1 a2 a3 len3 cap3 z3 a4 a5 a6 a7 len7 cap7 z7 w z3n z3c z7n z7c g3 e3 g7 e7 e4
      · exact law_neg_01 a0 a1 a2 a3 len3 cap3 z3 a4 a5 a6 a7 len7 cap7 z7 w z3n z3c z7n z7c g3 e3 g7 e7 e4
      · exact law_pos_01 a0 a1 a2 a3 len3 cap3 z3 a4 a5 a6 a7 len7 cap7 z7 w z3n z3c z7n z7c g3 e3 g7 e7 e4
      · exact law_neg_10 a0 a1 a2 a3 len3 cap3 z3 a4 a5 a6 a7 len7 cap7 z7 w z3n z3c z7n z7c g3 e3 g7 e7 e4
      · exact law_pos_10 a0 a1 a2 a3 len3 cap3 z3 a4 a5 a6 a7 len7 cap7 z7 w z3n z3c z7n z7c g3 e3 g7 e7 e4
      · exact law_neg_11 a0 a1 a2 a3 len3 cap3 z3 a4 a5 a6 a7 len7 cap7 z7 w z3n z3c z7n z7c g3 e3 g7 e7 e4
      · exact law_pos_11 a0 a1 a2 a3 len3 cap3 z3 a4 a5 a6 a7 len7 cap7 z7 w z3n z3c z7n z7c g3 e3 g7 e7 e4
    · exact long' a0 a1 a2 a3 len3 cap3 a4 a5 a6 a7 len7 cap7 w g3 (by omega)
  · exact long a0 a1 a2 a3 len3 cap3 a4 a5 a6 a7 len7 cap7 w (by omega)

/-! ### THE ROW's STEP: WRITTEN OUT: LEAVE IT -/
set_option maxRecDepth 100000 in
theorem lifted (os : Os) (started : os.Started) (H : Type) (enc : TypeId × Value → H) :
    ReturnsInHanded {} Yba.checked os 3 .any (Rows.lawS1606AMoveSpec.pre6 enc Yba.prog Yba.f3 Rows.lawS1606AMoveRow.domain false) (Rows.lawS1606AMoveSpec.post enc Yba.prog Yba.f3 false true false false) := by
  refine returnsInHanded_of_change (C := Yba.checked) own started (by kernel_rfl) Yba.func3
    (ChangeSpec.witness6 (enc := enc) (C := Yba.checked) false ⟨#[], #[.int .i64 0, .int .i64 0, .int .i64 0, .slice none 0 0, .int .i64 0, .int .i64 0, .int .i64 0, .slice none 0 0], []⟩ 8 (by kernel_rfl) (by kernel_rfl) (by kernel_rfl) (by kernel_rfl)) ?_
  intro W base args ds gs before hval0 hW hcnd _
  have hval : ∀ (j : Nat) t v, Yba.f3.params[j]? = some t → args[j]? = some v → Value.okWide Yba.prog W .any base t v := hval0
  have hW' := hW
  obtain ⟨p, q, hA0, hV, rfl, hfz, hnd⟩ := hW
  have hA : DataW.TrodAll enc Yba.prog W 0 (fun _ => true) true Yba.f3.params.toList args.toList ds p := hA0
  rw [Yba.params3] at hA hval
  obtain ⟨v0, vs0, d0, ds0, p0, q0, hargs, rfl, rfl, h0, r0⟩ := trodAll_cons hA
  obtain ⟨v1, vs1, d1, ds1, p1, q1, rfl, rfl, rfl, h1, r1⟩ := trodAll_cons r0
  obtain ⟨v2, vs2, d2, ds2, p2, q2, rfl, rfl, rfl, h2, r2⟩ := trodAll_cons r1
  obtain ⟨v3, vs3, d3, ds3, p3, q3, rfl, rfl, rfl, h3, r3⟩ := trodAll_cons r2
  obtain ⟨v4, vs4, d4, ds4, p4, q4, rfl, rfl, rfl, h4, r4⟩ := trodAll_cons r3
  obtain ⟨v5, vs5, d5, ds5, p5, q5, rfl, rfl, rfl, h5, r5⟩ := trodAll_cons r4
  obtain ⟨v6, vs6, d6, ds6, p6, q6, rfl, rfl, rfl, h6, r6⟩ := trodAll_cons r5
  obtain ⟨v7, vs7, d7, ds7, p7, q7, rfl, rfl, rfl, h7, r7⟩ := trodAll_cons r6
  obtain ⟨rfl, rfl, rfl⟩ := trodAll_nil r7
  obtain rfl : args = #[v0, v1, v2, v3, v4, v5, v6, v7] := by cases args; simp_all
  obtain ⟨rfl, rfl⟩ := trodVars_none hV
  obtain ⟨a0, rfl, rfl, rfl, w0⟩ := open_int Yba.underlying3 (hval 0 3 v0 rfl rfl) h0
  obtain ⟨a1, rfl, rfl, rfl, w1⟩ := open_int Yba.underlying3 (hval 1 3 v1 rfl rfl) h1
  obtain ⟨a2, rfl, rfl, rfl, w2⟩ := open_int Yba.underlying3 (hval 2 3 v2 rfl rfl) h2
  obtain ⟨a3, len3, cap3, rfl⟩ := okWide_slice Yba.underlying22 (hval 3 22 v3 rfl rfl)
  have k3 := h3
  have lt3 : ∀ x ∈ p3, x.block < W.heap.size := by obtain ⟨m, hm⟩ := k3; exact DataW.trod_lt m _ _ _ hm
  obtain ⟨z3, w3⟩ : ∃ zs, IsRow .u8 W a3 len3 cap3 zs := by
    obtain ⟨fuel, hf⟩ := h3
    rcases open_ints Yba.underlying22 Yba.underlying5 (by kernel_rfl) hf with ⟨hcs, _⟩ | ⟨x, l, c, zs, hcs, _, hl, hm, hz, _, hcell, hwz⟩
    · simp [Value.cells] at hcs
      obtain ⟨rfl, rfl, rfl⟩ := hcs
      exact ⟨[], .inl ⟨rfl, rfl, rfl, rfl⟩⟩
    · simp [Value.cells] at hcs
      obtain ⟨rfl, rfl, rfl⟩ := hcs
      exact ⟨zs, .inr ⟨_, rfl, hl, hm, by simpa using hz, hcell, hwz⟩⟩
  obtain ⟨a4, rfl, rfl, rfl, w4⟩ := open_int Yba.underlying3 (hval 4 3 v4 rfl rfl) h4
  obtain ⟨a5, rfl, rfl, rfl, w5⟩ := open_int Yba.underlying3 (hval 5 3 v5 rfl rfl) h5
  obtain ⟨a6, rfl, rfl, rfl, w6⟩ := open_int Yba.underlying3 (hval 6 3 v6 rfl rfl) h6
  obtain ⟨a7, len7, cap7, rfl⟩ := okWide_slice Yba.underlying22 (hval 7 22 v7 rfl rfl)
  have k7 := h7
  have lt7 : ∀ x ∈ p7, x.block < W.heap.size := by obtain ⟨m, hm⟩ := k7; exact DataW.trod_lt m _ _ _ hm
  obtain ⟨z7, w7⟩ : ∃ zs, IsRow .u8 W a7 len7 cap7 zs := by
    obtain ⟨fuel, hf⟩ := h7
    rcases open_ints Yba.underlying22 Yba.underlying5 (by kernel_rfl) hf with ⟨hcs, _⟩ | ⟨x, l, c, zs, hcs, _, hl, hm, hz, _, hcell, hwz⟩
    · simp [Value.cells] at hcs
      obtain ⟨rfl, rfl, rfl⟩ := hcs
      exact ⟨[], .inl ⟨rfl, rfl, rfl, rfl⟩⟩
    · simp [Value.cells] at hcs
      obtain ⟨rfl, rfl, rfl⟩ := hcs
      exact ⟨zs, .inr ⟨_, rfl, hl, hm, by simpa using hz, hcell, hwz⟩⟩
  clear hA0 hval0
  refine (walk a0 a1 a2 a3 len3 cap3 z3 a4 a5 a6 a7 len7 cap7 z7 W w0 w1 w2 w3 w4 w5 w6 w7).mono fun e W' ⟨he, bel⟩ => ?_
  subst he
  exact ⟨_, rfl, _, _, _, [], _, [], hW', trodAll_mk1 (shut_bool Yba.underlying4 _), (trodAll_cons_mk (shut_int Yba.underlying3 w0) (trodAll_cons_mk (shut_int Yba.underlying3 w1) (trodAll_cons_mk (shut_int Yba.underlying3 w2) (trodAll_cons_mk (Below.trod laidOut (by kernel_rfl) (of_decide_eq_true (by kernel_rfl)) k3 bel lt3) (trodAll_cons_mk (shut_int Yba.underlying3 w4) (trodAll_cons_mk (shut_int Yba.underlying3 w5) (trodAll_cons_mk (shut_int Yba.underlying3 w6) (trodAll_cons_mk (Below.trod laidOut (by kernel_rfl) (of_decide_eq_true (by kernel_rfl)) k7 bel lt7) trodAll_mk0)))))))), rfl, bel.frame _, fun h => by cases h⟩

theorem over : Rows.lawS1606AMoveRow.holds Yba.pinned (OpenSpec.ofChange Rows.lawS1606AMoveSpec) :=
  OpenClaim.holds_of_wide 3 Yba.f3 rfl rfl rfl rfl rfl rfl rfl ⟨rfl, rfl, rfl, rfl, rfl⟩ rfl rfl rfl rfl rfl (by kernel_rfl) Yba.func3 (by kernel_rfl)
    (of_decide_eq_true (by kernel_rfl)) (by unfold Func.isWrapper; first | (rw [if_pos (by decide +kernel)]; kernel_rfl) | (rw [if_neg (by decide +kernel)]; exact ⟨rfl, rfl⟩))
    (fun os started H enc _ => lifted os started H enc)

/-- ████ THE STATEMENT ████ -/
theorem proved : Rows.LawS1606AMoveSaid := over
#print axioms proved
end Go.Proofs.Ybulkagfu.lawS1606AMove

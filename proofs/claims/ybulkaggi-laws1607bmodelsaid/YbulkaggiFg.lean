import Derived.Test.YbulkaggiRows
import Derived.Test.YbulkaggiFf
import Derived.WalkKit
import Derived.ProofKit
import Derived.OpenShut
import Derived.ShutString
import Derived.ChangeOld
import Derived.Below
import Derived.Deep.Slices
namespace Go.Proofs.Ybulkaggi.lawS1607BModel
open Go.ChangeShapes Go.WideShapes Go.ChangeAt Go.RowKit Go.Proofs.Ybulkaggi.BM
set_option linter.unusedVariables false
set_option maxRecDepth 100000

theorem own : ownKnob Yba.prog.godebug = none := by kernel_rfl
theorem laidOut : laidOutB Yba.prog = true := by kernel_rfl
theorem cells85 : Yba.prog.cellsOf 85 = 3 := by kernel_rfl
theorem cells5 : Yba.prog.cellsOf 5 = 1 := by kernel_rfl

theorem add_plain (b off i : Nat) : (⟨b, off, none⟩ : Addr).add i = ⟨b, off + i, none⟩ := by
  unfold Addr.add
  split
  · rename_i h; subst h; rfl
  · rfl

theorem spot_none {w : World} {b o : Nat} {sp : Option Nat} {v : Value} (h : w.cell? ⟨b, o, sp⟩ = some v) : sp = none := by
  rcases sp with _ | x
  · rfl
  · exfalso
    simp only [World.cell?] at h
    split at h <;> simp at h

theorem byte_nat {n : Int} (h : (Lit.int .u8 n).wf = true) : ∃ m : Nat, n = (m : Int) ∧ m < 256 := by
  simp only [Lit.wf, Bool.and_eq_true, decide_eq_true_eq] at h
  obtain ⟨h1, h2⟩ := h
  have h1' : (0 : Int) ≤ n := h1
  have h2' : n ≤ 255 := h2
  exact ⟨n.toNat, by omega, by omega⟩

theorem inS_of {Hh : Type} {enc : TypeId × Value → Hh} {W : World} {a : Option Addr} {len cap : Nat} {d : DataW Hh} {ps : List MemPlace} (h : DataW.Trod enc Yba.prog W 0 (fun _ => true) true 38 (.slice a len cap) d ps) :
    ∃ l, InS W a len l := by
  obtain ⟨fuel, hf⟩ := h
  rcases Go.Deep.open_slice Yba.underlying38 hf with ⟨hcs, _⟩ | ⟨x, l, c, m, n, D, Pl, hcs, hb, hl, hm, hmm, _, hx⟩
  · simp [Value.cells] at hcs
    obtain ⟨rfl, rfl, rfl⟩ := hcs
    exact ⟨[], rfl, fun h => absurd h (Nat.lt_irrefl _)⟩
  · simp [Value.cells] at hcs
    obtain ⟨rfl, rfl, rfl⟩ := hcs
    simp only [if_true] at hmm
    have each : ∀ i, i < len → ∃ r : O3, (r.1 < 256 ∧ r.2.1 < 256 ∧ r.2.2 < 256) ∧ W.cell? (x.add (i * 3)) = some (.int .u8 (r.1 : Nat)) ∧ W.cell? (x.add (i * 3 + 1)) = some (.int .u8 (r.2.1 : Nat)) ∧ W.cell? (x.add (i * 3 + 2)) = some (.int .u8 (r.2.2 : Nat)) := by
      intro i hi
      obtain ⟨cs', h1, h2⟩ := hx i (by omega)
      rw [cells85] at h1
      obtain ⟨_, hlen, hcell⟩ := World.cells?_some h1
      obtain ⟨xs, k, hk, hxy, _, hxl, hfs⟩ := DataW.trod_struct Yba.underlying85 h2
      match cs', hlen with
      | [v0, v1, v2], _ =>
        have g0 := hfs 0 _ rfl
        have g1 := hfs 1 _ rfl
        have g2 := hfs 2 _ rfl
        simp [cells5] at g0 g1 g2
        have e0 := hcell 0 (by omega)
        have e1 := hcell 1 (by omega)
        have e2 := hcell 2 (by omega)
        rw [Go.Deep.add_add] at e0 e1 e2
        have hxl' : xs.length = 3 := hxl
        rw [List.getElem?_eq_getElem (by omega)] at g0 g1 g2
        obtain ⟨n0, c0, _, w0⟩ := DataW.trod_int Yba.underlying5 g0
        obtain ⟨n1, c1, _, w1⟩ := DataW.trod_int Yba.underlying5 g1
        obtain ⟨n2, c2, _, w2⟩ := DataW.trod_int Yba.underlying5 g2
        simp only [List.cons.injEq, and_true] at c0 c1 c2
        subst c0
        subst c1
        subst c2
        obtain ⟨m0, rfl, l0⟩ := byte_nat w0
        obtain ⟨m1, rfl, l1⟩ := byte_nat w1
        obtain ⟨m2, rfl, l2⟩ := byte_nat w2
        exact ⟨(m0, m1, m2), ⟨l0, l1, l2⟩, e0.trans rfl, e1.trans rfl, e2.trans rfl⟩
    obtain ⟨q, hq⟩ := Go.Deep.choose_lt each
    refine ⟨(List.range len).map q, by simp, fun h0 => ?_⟩
    obtain ⟨b, off, sp⟩ := x
    have hsp : sp = none := by
      have h1 := (hq 0 h0).2.1
      simp only [Addr.add, Nat.zero_mul] at h1
      exact spot_none h1
    subst hsp
    refine ⟨b, off, rfl, ?_, fun i hi => ?_⟩
    · have h1 := (hq 0 h0).2.1
      rw [add_plain] at h1
      exact World.block_lt_of_cell? W _ h1
    · have hi' : i < len := by simpa using hi
      obtain ⟨h0, h1, h2, h3⟩ := hq i hi'
      rw [add_plain] at h1 h2 h3
      simp only [List.getElem_map, List.getElem_range]
      exact ⟨h0, h1, by rw [Nat.add_assoc]; exact h2, by rw [Nat.add_assoc]; exact h3⟩

theorem walk (a0 : Option Addr) (n0 c0 : Nat) (l : List O3) (w : World) (h : InS w a0 n0 l) :
    Calls Yba.prog 5 #[.slice a0 n0 c0] w fun e w' => e = .returned (.bool true) ∧ Below w.heap.size w w' := by
  by_cases g0 : n0 ≤ 256
  · exact law_main a0 n0 c0 l w g0 h
  · exact law_long a0 n0 c0 w (by omega)

theorem lifted (os : Os) (started : os.Started) (Hh : Type) (enc : TypeId × Value → Hh) :
    ReturnsInHanded {} Yba.checked os 5 .any (Rows.lawS1607BModelSpec.pre6 enc Yba.prog Yba.f5 Rows.lawS1607BModelRow.domain false) (Rows.lawS1607BModelSpec.post enc Yba.prog Yba.f5 false true false false) := by
  refine returnsInHanded_of_change (C := Yba.checked) own started (by kernel_rfl) Yba.func5
    (ChangeSpec.witness6 (enc := enc) (C := Yba.checked) false ⟨#[], #[.slice none 0 0], []⟩ 8 (by kernel_rfl) (by kernel_rfl) (by kernel_rfl) (by kernel_rfl)) ?_
  intro W base args ds gs before hval0 hW hcnd _
  have hval : ∀ (j : Nat) t v, Yba.f5.params[j]? = some t → args[j]? = some v → Value.okWide Yba.prog W .any base t v := hval0
  have hW' := hW
  obtain ⟨p, q, hA0, hV, rfl, hfz, hnd⟩ := hW
  have hA : DataW.TrodAll enc Yba.prog W 0 (fun _ => true) true Yba.f5.params.toList args.toList ds p := hA0
  rw [Yba.params5] at hA hval
  obtain ⟨v0, vs0, d0, ds0, p0, q0, hargs, rfl, rfl, h0, r0⟩ := trodAll_cons hA
  obtain ⟨rfl, rfl, rfl⟩ := trodAll_nil r0
  obtain rfl : args = #[v0] := by cases args; simp_all
  obtain ⟨rfl, rfl⟩ := trodVars_none hV
  obtain ⟨a0, len0, cap0, rfl⟩ := okWide_slice Yba.underlying38 (hval 0 38 v0 rfl rfl)
  have k0 := h0
  have lt0 : ∀ x ∈ p0, x.block < W.heap.size := by obtain ⟨m, hm⟩ := k0; exact DataW.trod_lt m _ _ _ hm
  obtain ⟨l0, w0⟩ := inS_of h0
  clear hA0 hval0
  refine (walk a0 len0 cap0 l0 W w0).mono fun e W' ⟨he, bel⟩ => ?_
  subst he
  exact ⟨_, rfl, _, _, _, [], _, [], hW', trodAll_mk1 (shut_bool Yba.underlying4 _), (trodAll_cons_mk (Below.trod laidOut (by kernel_rfl) (of_decide_eq_true (by kernel_rfl)) k0 bel lt0) trodAll_mk0), rfl, bel.frame _, fun h => by cases h⟩

theorem over : Rows.lawS1607BModelRow.holds Yba.pinned (OpenSpec.ofChange Rows.lawS1607BModelSpec) :=
  OpenClaim.holds_of_wide 5 Yba.f5 rfl rfl rfl rfl rfl rfl rfl ⟨rfl, rfl, rfl, rfl, rfl⟩ rfl rfl rfl rfl rfl (by kernel_rfl) Yba.func5 (by kernel_rfl)
    (of_decide_eq_true (by kernel_rfl)) (by unfold Func.isWrapper; first | (rw [if_pos (by decide +kernel)]; kernel_rfl) | (rw [if_neg (by decide +kernel)]; exact ⟨rfl, rfl⟩))
    (fun os started H enc _ => lifted os started H enc)

theorem proved : Rows.LawS1607BModelSaid := over
#print axioms proved
end Go.Proofs.Ybulkaggi.lawS1607BModel

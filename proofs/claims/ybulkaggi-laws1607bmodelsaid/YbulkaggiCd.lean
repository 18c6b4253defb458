import Derived.Test.YbulkaggiCc
namespace Go.Proofs.Ybulkaggi.CE
open Go.RowKit Go.WideMaps Go.Maps
set_option linter.unusedVariables false
set_option maxRecDepth 100000

theorem Rel.setSw {N : Nat} {D : List Nat} {T : Nat} {w : World} {S : St} (h : Rel N D T w S) : Rel N D T (w.setCell ⟨T, 6, none⟩ (.int .i64 0)) S ∧ Fr N D w (w.setCell ⟨T, 6, none⟩ (.int .i64 0)) := by
  have hb := h.t.at_
  refine ⟨⟨fun k hk => by rw [size_set]; exact h.low k hk, by rw [size_set]; exact h.lowN, ⟨?_, h.t.ok⟩, h.x.keep (Kt.setCell hb (by decide)), h.r.keep (Kt.setCell hb (by decide)), h.i.keep (Kt.setCell hb (by decide)), h.q.keep (Kt.setCell hb (by decide)), h.v.keep (Kt.setCell hb (by decide)), h.g.keep (Kt.setCell hb (by decide)), h.m.keep (Km.setCell hb)⟩, Fr.setCell h.t.ok _⟩
  show _ = some (Obj.cells #[.bool S.th, .map S.im, .map S.tm, .int .u64 S.last, S.Q 64, S.G, .int .i64 0, po (S.al.map S.tb)] 55 (0, 0))
  rw [heap_setCell_same w T 6 _ 55 _ hb]
  rfl

def SwPost (N : Nat) (D : List Nat) (T : Nat) (w : World) (S : St) (e : Ending) (w' : World) : Prop :=
  e = .returned (.tuple #[]) ∧ ∃ o, Rel N D T w' { S with im := o } ∧ Fr N D w w' ∧ (S.ks = [] → o = none)
theorem len48_nil (w : World) (ty : TypeId) : (Builtin.len_ #[48] ty #[.map none]).run Yba.prog w = .ok (.int .i64 0) w := by kernel_rfl
theorem IM.lenO {w : World} {o : Option Nat} {its : List Nat} (h : ∀ b, o = some b → IM w b its) : ∃ n : Nat, n ≤ 3 ∧ ∀ ty, (Builtin.len_ #[48] ty #[.map o]).run Yba.prog w = .ok (.int .i64 (n : Nat)) w := by
  cases o with
  | none => exact ⟨0, by omega, fun ty => len48_nil w ty⟩
  | some b =>
    obtain ⟨n, h1, h2⟩ := (h b rfl).len 0
    exact ⟨n, h1, fun ty => h2⟩
theorem sweep_any {N : Nat} {D : List Nat} {T b : Nat} {w : World} {S : St} (h : Rel N D T w S) (htm : S.tm = some b) (hlen : S.ks.length ≤ 64) :
    Calls Yba.prog 69 #[Pp T] w (SwPost N D T w S) := by
  have hT := h.t.at_
  have f1 := free_at hT 1
  have f6 := free_at hT 6
  have c2 : w.cell? ⟨T, 2, none⟩ = some (.map (some b)) := by rw [cell_at hT, htm]; rfl
  have c6 : w.cell? ⟨T, 6, none⟩ = some (.int .i64 0) := by rw [cell_at hT]; rfl
  have c1 : w.cell? ⟨T, 1, none⟩ = some (.map S.im) := by rw [cell_at hT]; rfl
  have lt := hlt hT
  have r0 := fun ty => (h.m.ftm b htm).len ty
  by_cases hk : S.ks = []
  · rw [hk] at r0
    obtain ⟨h1, k1⟩ := h.setIm none (fun b e => by cases e)
    obtain ⟨h2, k2⟩ := h1.setSw
    have HP : Hid (SwPost N D T w S (.returned (.tuple #[])) ((w.setCell ⟨T, 1, none⟩ (.map none)).setCell ⟨T, 6, none⟩ (.int .i64 0))) := ⟨rfl, none, h2, k1.trans k2, fun _ => rfl⟩
    clear h h1 h2 k1 k2 hT
    go_enter Yba.func69, Yba.ntmps69
    go_wp2
    go_end0
    exact HP.out
  · obtain ⟨n, hn, r1⟩ := IM.lenO (fun b e => h.drew.m.fim b e)
    have hk0 : 0 < S.ks.length := List.length_pos_iff.2 hk
    obtain ⟨m, hm⟩ : ∃ m, S.ks.length = m := ⟨_, rfl⟩
    rw [hm] at r0 hk0 hlen
    have HP : Hid (∀ w', w'.heap = w.heap → w'.os = w.os → w'.tape = w.tape → w'.output = w.output → SwPost N D T w S (.returned (.tuple #[])) w') := fun w' e1 e2 e3 e4 => ⟨rfl, S.im, h.heapEq e1, (Fr.refl _ _ _).heapEq e1 e2 e3 e4, fun e => absurd e hk⟩
    clear h hT
    go_enter Yba.func69, Yba.ntmps69
    go_upto_region 2 with fail
    go_region
    go_wp2
    go_end0
    exact HP.out _ rfl rfl rfl rfl

end Go.Proofs.Ybulkaggi.CE

import Derived.Test.YbulkaggiC6
import Derived.Deep.DeepCutAuto
namespace Go.Proofs.Ybulkaggi.CE
open Go.RowKit Go.WideMaps Go.Maps
set_option linter.unusedVariables false
set_option maxRecDepth 100000

def WStep (S S' : St) (x i : Nat) : Prop := (S.wr i = some x ∧ S' = { S with wn := upd S.wn i ((x : Int) + 1) }) ∨ (S.wr i ≠ some x ∧ ∃ v : Value, S' = { S with W := upd S.W x v, wl := upd S.wl x (S.wl x ++ [(i, S.wn i)]), wr := upd S.wr i (some x), wn := upd S.wn i ((x : Int) + 1) })
theorem WStep.again {S S' : St} {x i : Nat} (h : S.wr i = some x) (e : S' = { S with wn := upd S.wn i ((x : Int) + 1) }) : WStep S S' x i := Or.inl ⟨h, e⟩
theorem WStep.first {S S' : St} {x i : Nat} (h : S.wr i ≠ some x) (v : Value) (e : S' = { S with W := upd S.W x v, wl := upd S.wl x (S.wl x ++ [(i, S.wn i)]), wr := upd S.wr i (some x), wn := upd S.wn i ((x : Int) + 1) }) : WStep S S' x i := Or.inr ⟨h, v, e⟩
def WritePost (N : Nat) (D : List Nat) (T : Nat) (w : World) (S : St) (x i : Nat) (e : Ending) (w' : World) : Prop :=
  e = .returned (.tuple #[]) ∧ ∃ S', Rel N D T w' S' ∧ Fr N D w w' ∧ WStep S S' x i

theorem ne_nil_ptr (w : World) (b : Nat) : (binOp .neq 53 (.pointer none) (Pp b)).run Yba.prog w = .ok (.bool true) w := by kernel_rfl
theorem ne_ptr_nil (w : World) (b : Nat) : (binOp .neq 53 (Pp b) (.pointer none)).run Yba.prog w = .ok (.bool true) w := by kernel_rfl

set_option maxHeartbeats 1000000 in
theorem write_any {N : Nat} {D : List Nat} {T : Nat} {w : World} {S : St} (h : Rel N D T w S) {x i : Nat} (hx : x ∈ S.hs) (hi : i ∈ S.its) (hwr : ∀ y, S.wr i = some y → y ∈ S.hs) (hlen : (S.wl x).length ≤ 100000) :
    Calls Yba.prog 66 #[Pp (S.tb x), Pp i] w (WritePost N D T w S x i) := by
  by_cases hw : S.wr i = some x
  · have c0 : w.cell? ⟨i, 2, none⟩ = some (Pp (S.tb x)) := by rw [cell_at (h.i.at_ i hi), hw]; rfl
    have c1 : w.cell? ⟨S.tb x, 1, none⟩ = some (.int .u64 ((x : Int) + 1)) := (cell_at (h.x.at_ x hx) 1).trans rfl
    have c2 : w.cell? ⟨i, 1, none⟩ = some (.int .u64 (S.wn i)) := (cell_at (h.i.at_ i hi) 1).trans rfl
    have z0 := free_at (h.i.at_ i hi) 1
    have r0 := ne_ptr_same w (S.tb x)
    have HP : Hid (WritePost N D T w S x i (.returned (.tuple #[])) (w.setCell ⟨i, 1, none⟩ (.int .u64 ((x : Int) + 1)))) := by
      obtain ⟨g1, g2⟩ := h.setWn hi ((x : Int) + 1)
      exact ⟨rfl, _, g1, g2, .again hw rfl⟩
    clear h hx hi hwr hlen hw
    generalize S.tb x = B at *
    go_enter Yba.func66, Yba.ntmps66
    go_wp2
    go_end0
    exact HP.out
  · have ⟨p, c0, r0⟩ : ∃ p, w.cell? ⟨i, 2, none⟩ = some (.pointer p) ∧ (binOp .neq 53 (.pointer p) (Pp (S.tb x))).run Yba.prog w = .ok (.bool true) w := by
      cases e : S.wr i with
      | none => exact ⟨none, by rw [cell_at (h.i.at_ i hi), e]; rfl, ne_nil_ptr w _⟩
      | some y =>
        have hy := hwr y e
        refine ⟨some ⟨S.tb y, 0, none⟩, by rw [cell_at (h.i.at_ i hi), e]; rfl, ne_ptr_diff w _ _ (fun e' => hw ?_) (h.x.at_ y hy) (h.x.at_ x hx)⟩
        rw [e, h.x.inj y hy x hx e']
    have HH := hide h
    have HX := hide hx
    have HI := hide hi
    clear h hx hi hwr
    go_enter Yba.func66, Yba.ntmps66
    go_upto_region 1 with fail
    refine write66 HH.out HX.out HI.out hlen ?_
    intro t10 t11 t12 t13 t14 t15 t16 t17 t18 t19 t20 t21 t22 t23 t24 v wx g1 g2
    have c3 : wx.cell? ⟨i, 2, none⟩ = some _ := (cell_at (g1.i.at_ i HI.out) 2)
    have z3 := free_at (g1.i.at_ i HI.out) 2
    have c4 : wx.cell? ⟨S.tb x, 1, none⟩ = some (.int .u64 ((x : Int) + 1)) := (cell_at (g1.x.at_ x HX.out) 1).trans rfl
    have c5 : wx.cell? ⟨i, 1, none⟩ = some (.int .u64 (S.wn i)) := (cell_at (g1.i.at_ i HI.out) 1).trans rfl
    have z5 := free_at (g1.i.at_ i HI.out) 1
    have ne : i ≠ S.tb x := tag_ne (HH.out.i.at_ i HI.out) (HH.out.x.at_ x HX.out) (by decide)
    have ne' := ne.symm
    have HP : Hid (WritePost N D T w S x i (.returned (.tuple #[])) ((wx.setCell ⟨i, 2, none⟩ (Pp (S.tb x))).setCell ⟨i, 1, none⟩ (.int .u64 ((x : Int) + 1)))) := by
      obtain ⟨g3, g4⟩ := g1.setWr (i := i) HI.out (some x)
      obtain ⟨g5, g6⟩ := g3.setWn (i := i) HI.out ((x : Int) + 1)
      exact ⟨rfl, _, g5, (g2.trans g4).trans g6, .first hw v rfl⟩
    clear g1 g2 HH HX HI hw hlen
    generalize S.tb x = B at *
    go_wp2
    go_end0
    exact HP.out

end Go.Proofs.Ybulkaggi.CE

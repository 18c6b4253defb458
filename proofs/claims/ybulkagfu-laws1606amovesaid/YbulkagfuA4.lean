import Derived.Test.YbulkagfuA2
namespace Go.Proofs.Ybulkagfu
open Go.RowKit
set_option linter.unusedVariables false
set_option maxRecDepth 100000

theorem five_other (w : World) (eb : Nat) (x2 x3 x4 x8 x5 : Value) (k : Nat) (h2 : k ≠ 2) (h3 : k ≠ 3) (h4 : k ≠ 4) (h8 : k ≠ 8) (h5 : k ≠ 5) :
    (((((w.setCell ⟨eb, 2, none⟩ x2).setCell ⟨eb, 3, none⟩ x3).setCell ⟨eb, 4, none⟩ x4).setCell ⟨eb, 8, none⟩ x8).setCell ⟨eb, 5, none⟩ x5).drew.cell? ⟨eb, k, none⟩ = w.cell? ⟨eb, k, none⟩ := by
  have e : ∀ x : World, x.drew.cell? ⟨eb, k, none⟩ = x.cell? ⟨eb, k, none⟩ := fun x => rfl
  rw [e, World.cell?_setCell_other _ _ _ _ (by simp [*]), World.cell?_setCell_other _ _ _ _ (by simp [*]), World.cell?_setCell_other _ _ _ _ (by simp [*]), World.cell?_setCell_other _ _ _ _ (by simp [*]), World.cell?_setCell_other _ _ _ _ (by simp [*])]

theorem five_below (w : World) (eb : Nat) (x2 x3 x4 x8 x5 : Value) :
    Below eb w (((((w.setCell ⟨eb, 2, none⟩ x2).setCell ⟨eb, 3, none⟩ x3).setCell ⟨eb, 4, none⟩ x4).setCell ⟨eb, 8, none⟩ x8).setCell ⟨eb, 5, none⟩ x5).drew := by
  refine Below.drew ?_
  refine Below.setCell (p := ⟨eb, 5, none⟩) ?_ (Nat.le_refl eb) _
  refine Below.setCell (p := ⟨eb, 8, none⟩) ?_ (Nat.le_refl eb) _
  refine Below.setCell (p := ⟨eb, 4, none⟩) ?_ (Nat.le_refl eb) _
  refine Below.setCell (p := ⟨eb, 3, none⟩) ?_ (Nat.le_refl eb) _
  refine Below.setCell (p := ⟨eb, 2, none⟩) ?_ (Nat.le_refl eb) _
  exact Below.refl _ _

theorem adv_pos2 (eb : Nat) (en at_ fi na nf : Int) (la : Option Addr) (ln lc : Nat) (nla : Option Addr) (nln nlc : Nat) (w : World) {tr : Int} (h0 : w.cell? ⟨eb, 0, none⟩ = some (.pointer none)) (h1 : w.cell? ⟨eb, 1, none⟩ = some (.int .i64 tr)) (h2 : w.cell? ⟨eb, 2, none⟩ = some (.int .i64 at_)) (h3 : w.cell? ⟨eb, 3, none⟩ = some (.int .i64 fi)) (h4 : w.cell? ⟨eb, 4, none⟩ = some (.slice la ln lc)) (h5 : w.cell? ⟨eb, 5, none⟩ = some (.int .i64 en))
    (h6 : w.cell? ⟨eb, 6, none⟩ = some (.int .i64 na)) (h7 : w.cell? ⟨eb, 7, none⟩ = some (.int .i64 nf)) (h8 : w.cell? ⟨eb, 8, none⟩ = some (.slice nla nln nlc)) (hf : ∀ t, w.frozen? ⟨eb, t, none⟩ = false) (hl : ln ≤ lc) (hn : 0 ≤ en) :
    Calls Yba.prog 6 #[.pointer (some ⟨eb, 0, none⟩)] w fun e w' => e = .returned (.bool true) ∧ Below eb w w' ∧ w'.cell? ⟨eb, 0, none⟩ = some (.pointer none) ∧ w'.cell? ⟨eb, 1, none⟩ = some (.int .i64 tr) ∧ w'.cell? ⟨eb, 2, none⟩ = some (.int .i64 na) ∧ w'.cell? ⟨eb, 3, none⟩ = some (.int .i64 nf) ∧ w'.cell? ⟨eb, 4, none⟩ = some (.slice nla nln nlc) ∧ w'.cell? ⟨eb, 5, none⟩ = some (.int .i64 (-1)) ∧ w'.cell? ⟨eb, 6, none⟩ = some (.int .i64 na) ∧ w'.cell? ⟨eb, 7, none⟩ = some (.int .i64 nf) ∧ w'.cell? ⟨eb, 8, none⟩ = some (.slice la 0 lc) := by
  refine (adv_pos eb en at_ fi na nf la ln lc nla nln nlc w h2 h3 h4 h5 h6 h7 h8 hf hl hn).mono ?_
  rintro e w' ⟨rfl, rfl⟩
  have o := fun k => five_other w eb (.int .i64 na) (.int .i64 nf) (.slice nla nln nlc) (.slice la 0 lc) (.int .i64 (-1)) k
  have e : ∀ (x : World) (a : Addr), x.drew.cell? a = x.cell? a := fun x a => rfl
  refine ⟨rfl, five_below w eb _ _ _ _ _, (o 0 (by omega) (by omega) (by omega) (by omega) (by omega)).trans h0, (o 1 (by omega) (by omega) (by omega) (by omega) (by omega)).trans h1, ?_, ?_, ?_, ?_, (o 6 (by omega) (by omega) (by omega) (by omega) (by omega)).trans h6, (o 7 (by omega) (by omega) (by omega) (by omega) (by omega)).trans h7, ?_⟩
  · rw [e, World.cell?_setCell_other _ _ _ _ (by simp), World.cell?_setCell_other _ _ _ _ (by simp), World.cell?_setCell_other _ _ _ _ (by simp), World.cell?_setCell_other _ _ _ _ (by simp), World.cell?_setCell_same _ _ _ h2]
  · rw [e, World.cell?_setCell_other _ _ _ _ (by simp), World.cell?_setCell_other _ _ _ _ (by simp), World.cell?_setCell_other _ _ _ _ (by simp)]
    exact World.cell?_setCell_same _ _ _ ((World.cell?_setCell_other _ _ _ _ (by simp)).trans h3)
  · rw [e, World.cell?_setCell_other _ _ _ _ (by simp), World.cell?_setCell_other _ _ _ _ (by simp)]
    exact World.cell?_setCell_same _ _ _ ((World.cell?_setCell_other _ _ _ _ (by simp)).trans ((World.cell?_setCell_other _ _ _ _ (by simp)).trans h4))
  · rw [e]
    exact World.cell?_setCell_same _ _ _ ((World.cell?_setCell_other _ _ _ _ (by simp)).trans ((World.cell?_setCell_other _ _ _ _ (by simp)).trans ((World.cell?_setCell_other _ _ _ _ (by simp)).trans ((World.cell?_setCell_other _ _ _ _ (by simp)).trans h5))))
  · rw [e, World.cell?_setCell_other _ _ _ _ (by simp)]
    exact World.cell?_setCell_same _ _ _ ((World.cell?_setCell_other _ _ _ _ (by simp)).trans ((World.cell?_setCell_other _ _ _ _ (by simp)).trans ((World.cell?_setCell_other _ _ _ _ (by simp)).trans h8)))

end Go.Proofs.Ybulkagfu

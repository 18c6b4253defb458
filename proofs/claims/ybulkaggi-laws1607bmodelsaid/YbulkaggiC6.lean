import Derived.Test.YbulkaggiC5
namespace Go.Proofs.Ybulkaggi.CE
open Go.RowKit Go.WideMaps Go.Maps
set_option linter.unusedVariables false
set_option maxRecDepth 100000

/-- The region of a number within a code. -/
def regOf (k : Nat) : Code → Option Code
  | .region i ops s => if i = k then some (.region i ops s) else none
  | .loop c => regOf k c
  | .seq a b => (regOf k a).or (regOf k b)
  | .block _ c => regOf k c
  | .scope c => regOf k c
  | .cond _ a b => (regOf k a).or (regOf k b)
  | _ => none
def rgOf (b : Option Code) (k : Nat) : Code := (b.bind (regOf k)).getD .skip
/-- The loops of a code, the outer one first. -/
def loopsOf : Code → List Code
  | .loop c => .loop c :: loopsOf c
  | .seq a b => loopsOf a ++ loopsOf b
  | .block _ c => loopsOf c
  | .scope c => loopsOf c
  | .cond _ a b => loopsOf a ++ loopsOf b
  | _ => []
def lpOf (b : Option Code) (k : Nat) : Code := ((b.map loopsOf).getD []).getD k .skip
def isReg (k : Nat) : Code → Bool
  | .region i _ _ => i == k
  | _ => false
/-- The code behind a region, to the end of the row of statements that it stands in. -/
def aftOf (k : Nat) : Code → Option Code
  | .seq a b => if isReg k a then some b else (aftOf k a).or (aftOf k b)
  | .loop c => aftOf k c
  | .block _ c => aftOf k c
  | .scope c => aftOf k c
  | .cond _ a b => (aftOf k a).or (aftOf k b)
  | _ => none
def afOf (b : Option Code) (k : Nat) : Code := (b.bind (aftOf k)).getD .skip

theorem undo_append (l : List (Nat × Int)) (i : Nat) (u : Int) : l.flatMap undoC ++ [Pp i, .int .u64 u] = (l ++ [(i, u)]).flatMap undoC := by simp [undoC]
theorem ign_append (l : List (Int × Int)) (i u : Int) : l.flatMap ignC ++ [.int .u64 i, .int .u64 u] = (l ++ [(i, u)]).flatMap ignC := by simp [ignC]
theorem news2 {w : World} {e : TypeId} {a b : Value} (W : World) (hW : W.heap = (w.alloc (.cells #[a, b] e)).heap) : ∀ j u, [a, b][j]? = some u → W.cell? ⟨w.heap.size, j, none⟩ = some u := fun j u hj => by
  have h0 : W.heap[w.heap.size]? = some (.cells #[a, b] e (0, 0)) := by rw [hW]; exact heap_alloc_new w _
  rw [cell_at h0]
  simpa using hj
theorem news1 {w : World} {e : TypeId} {a : Value} (W : World) (hW : W.heap = (w.alloc (.cells #[a] e)).heap) : ∀ j u, [a][j]? = some u → W.cell? ⟨w.heap.size, j, none⟩ = some u := fun j u hj => by
  have h0 : W.heap[w.heap.size]? = some (.cells #[a] e (0, 0)) := by rw [hW]; exact heap_alloc_new w _
  rw [cell_at h0]
  simpa using hj

set_option maxHeartbeats 2000000 in
theorem write66 {K : Act → World → Prop} {Q : Exit → Act → World → Prop} {N : Nat} {D : List Nat} {T x i : Nat} {w : World} {S : St} {y2 y3 y4 y5 y6 y7 y8 y9 y10 y11 y12 y13 y14 y15 y16 y17 y18 y19 y20 y21 y22 y23 y24 y25 y26 y27 y28 y29 y30 y31 y32 y33 y34 y35 : Value} (h : Rel N D T w S) (hx : x ∈ S.hs) (hi : i ∈ S.its) (hlen : (S.wl x).length ≤ 100000)
    (hK : ∀ (t10 t11 t12 t13 t14 t15 t16 t17 t18 t19 t20 t21 t22 t23 t24 v : Value) (wx : World), Rel N D T wx { S with W := upd S.W x v, wl := upd S.wl x (S.wl x ++ [(i, S.wn i)]) } → Fr N D w wx → K { tmps := List.toArray ((Pp (S.tb x)) :: (Pp i) :: y2 :: y3 :: y4 :: y5 :: y6 :: y7 :: y8 :: y9 :: (t10) :: (t11) :: (t12) :: (t13) :: (t14) :: (t15) :: (t16) :: (t17) :: (t18) :: (t19) :: (t20) :: (t21) :: (t22) :: (t23) :: (t24) :: y25 :: y26 :: y27 :: y28 :: y29 :: y30 :: y31 :: y32 :: y33 :: y34 :: y35 :: []), defers := [] } wx) :
    Code.wp Yba.prog (rgOf Yba.f66.body 1) (Exit.then K Q) { tmps := List.toArray ((Pp (S.tb x)) :: (Pp i) :: y2 :: y3 :: y4 :: y5 :: y6 :: y7 :: y8 :: y9 :: y10 :: y11 :: y12 :: y13 :: y14 :: y15 :: y16 :: y17 :: y18 :: y19 :: y20 :: y21 :: y22 :: y23 :: y24 :: y25 :: y26 :: y27 :: y28 :: y29 :: y30 :: y31 :: y32 :: y33 :: y34 :: y35 :: []), defers := [] } w := by
  have c0 : w.cell? ⟨S.tb x, 2, none⟩ = some (S.W x) := (cell_at (h.x.at_ x hx) 2).trans rfl
  have z0 := free_at (h.x.at_ x hx) 2
  have c1 : w.cell? ⟨i, 1, none⟩ = some (.int .u64 (S.wn i)) := (cell_at (h.i.at_ i hi) 1).trans rfl
  have lx := hlt (h.x.at_ x hx)
  have li := hlt (h.i.at_ i hi)
  obtain ⟨va, vc, hv⟩ := sl_shape (h.v.own x hx)
  have how := h.v.own x hx
  have HN : Hid (∀ k, (S.W x).ownBlock = some k → k ≠ S.tb x) := fun k hk => by
    obtain ⟨cs, hc⟩ := own_tag how hk
    exact tag_ne hc (h.x.at_ x hx) (by decide)
  have HP : Hid (∀ v' w3 wx, w3.ownsRow N 124 2 v' ((S.wl x).length + 1) ((S.wl x).flatMap undoC ++ [Pp i, .int .u64 (S.wn i)]) → (w.alloc (.cells #[Pp i, .int .u64 (S.wn i)] 124)).grownBy w3 (S.W x).ownBlock → (v'.ownBlock = (S.W x).ownBlock ∨ v'.ownBlock = some (w.alloc (.cells #[Pp i, .int .u64 (S.wn i)] 124)).heap.size) → wx.heap = (w3.setCell ⟨S.tb x, 2, none⟩ v').heap → wx.os = w3.os → wx.tape = w3.tape → wx.output = w3.output → Rel N D T wx { S with W := upd S.W x v', wl := upd S.wl x (S.wl x ++ [(i, S.wn i)]) } ∧ Fr N D w wx) := by
    intro v' w3 wx h1 h2 h3 e0 e1 e2 e3
    rw [undo_append] at h1
    obtain ⟨g1, g2⟩ := (h.alloc (.cells #[Pp i, .int .u64 (S.wn i)] 124)).pushW hx h2 (l' := S.wl x ++ [(i, S.wn i)]) (by simpa using h1) (or_snd h3 (fun e => ⟨_, e, Nat.le_refl _⟩))
    exact ⟨g1.heapEq e0, ((Fr.alloc h.low _).trans g2).heapEq e0 e1 e2 e3⟩
  have HW : Hid (w.ownsRow N 124 2 (.slice va (S.wl x).length vc) (S.wl x).length ((S.wl x).flatMap undoC)) := by rw [← hv]; exact how
  have hbase := h.lowN
  rw [hv] at HN HP c0
  have HK := hide hK
  clear hK how h hx hi hv
  generalize (S.wl x).length = m at *
  generalize (S.wl x).flatMap undoC = XS at *
  generalize S.tb x = B at *
  generalize S.wn i = u at *
  conv => arg 2; whnf
  refine wp_region_noPanic ?_
  go_region_law (refine step_append (base := N) (n := m) (v := .slice va m vc) (by rfl) (.tmp 14) (.tmp 21) 62 (by rfl) 124 _ 2 16 Yba.underlying62 info124 rfl (by decide) (by decide) (by rfl) (by rfl) [Pp i, .int .u64 u] rfl (by exact news2 _ rfl) (by simp [Value.oneCell']) (by exact HW.out.alloc _) (by omega) (by exact Nat.le_trans hbase (by simp)) ?_; intro v' w3 ho3 hg3 hl3; obtain ⟨va', vc', hv3⟩ := sl_shape ho3; subst hv3; have hg3' := grown_of_drew hg3; have hbk := (hg3'.block B (by simp; omega) (fun e => HN.out B e.symm rfl)).trans (Below.heap_alloc _ _ _ lx); have b9' := (World.cell?_of_block (w := w) (a := ⟨B, 2, none⟩) hbk).trans c0; have z9' := (World.frozen?_of_block (w := w) (a := ⟨B, 2, none⟩) hbk).trans z0; have HO3 := hide ho3; have HG3 := hide hg3'; have HL3 := hide hl3; clear ho3 hg3 hg3' hbk hl3)
  all_goals (have P := HP.out _ w3 _ HO3.out HG3.out HL3.out rfl rfl rfl rfl; exact HK.out _ _ _ _ _ _ _ _ _ _ _ _ _ _ _ (.slice va' (m + 1) vc') _ P.1 P.2)

end Go.Proofs.Ybulkaggi.CE

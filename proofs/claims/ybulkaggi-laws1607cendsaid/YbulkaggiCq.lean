import Derived.Test.YbulkaggiCs0
import Derived.Test.YbulkaggiCs1
import Derived.Test.YbulkaggiCs2
import Derived.Test.YbulkaggiCs3
namespace Go.Proofs.Ybulkaggi.CE
open Go.RowKit Go.WideMaps Go.Maps
set_option linter.unusedVariables false
set_option maxRecDepth 100000

abbrev O4 : Type := Nat × Nat × Nat × Bool
/-- The operations that came in. -/
structure InO (w : World) (a : Option Addr) (n : Nat) (l : List O4) : Prop where
  len : l.length = n
  at_ : 0 < n → ∃ b off, a = some ⟨b, off, none⟩ ∧ b < w.heap.size ∧ ∀ i (hi : i < l.length), (l[i].1 < 256 ∧ l[i].2.1 < 256 ∧ l[i].2.2.1 < 256) ∧ w.cell? ⟨b, off + i * 4, none⟩ = some (.int .u8 (l[i].1 : Nat)) ∧ w.cell? ⟨b, off + i * 4 + 1, none⟩ = some (.int .u8 (l[i].2.1 : Nat)) ∧ w.cell? ⟨b, off + i * 4 + 2, none⟩ = some (.int .u8 (l[i].2.2.1 : Nat)) ∧ w.cell? ⟨b, off + i * 4 + 3, none⟩ = some (.bool l[i].2.2.2)
theorem info4 : (Yba.prog.info? 4).map (fun i => (i.zero, i.size, i.bytes)) = some (some (.bool false), 1, 1) := by kernel_rfl
abbrev tabO (th : Bool) : Obj := .cells #[.bool th, .map none, .map none, .int .u64 0, .slice none 0 0, .slice none 0 0, .int .i64 0, .pointer none] 55 (0, 0)

/-- The state at the start. -/
abbrev S0 (th : Bool) : St := { th := th, im := none, tm := none, last := 0, G := .slice none 0 0, gl := [], al := none, hs := [], ks := [], tb := fun _ => 0, W := fun _ => .slice none 0 0, Q := fun _ => .slice none 0 0, M := fun _ => none, wt := fun _ => none, wl := fun _ => [], ql := fun _ => [], its := [], rd := fun _ => 0, wn := fun _ => 0, wr := fun _ => none }
theorem own_nil (w : World) (base : Nat) (e : TypeId) (size : Nat) : w.ownsRow base e size (.slice none 0 0) 0 [] := ⟨by simp, .inl ⟨rfl, rfl⟩⟩
theorem LI.start {w w1 : World} {th : Bool} (ho : w1.ownsRow 0 4 1 (.slice (some ⟨w.heap.size + 2, 0, none⟩) 64 64) 64 (madeCells (Value.bool false).cells (64 * 1)).toList) (hg : ((w.alloc (tabO th)).alloc (.cells namC 56)).grownBy w1 none) :
    LI w.heap.size w.heap.size (w.heap.size + 2) (w.heap.size + 1) w w1 0 0 (.slice none 0 0) [w.heap.size + 1] [w.heap.size + 2, w.heap.size + 1] (S0 th) := by
  have sz : w.heap.size + 2 < w1.heap.size := (ho.lt _ rfl).2
  have hT : w1.heap[w.heap.size]? = some (tabO th) := (hg.block w.heap.size (by simp; omega) (by simp)).trans ((Below.heap_alloc _ _ _ (by simp)).trans (heap_alloc_new w _))
  have hN : w1.heap[w.heap.size + 1]? = some (.cells namC 56 (0, 0)) := (hg.block (w.heap.size + 1) (by simp) (by simp)).trans (by
    have := heap_alloc_new (w.alloc (tabO th)) (.cells namC 56)
    simpa using this)
  have hA : AB w1 (w.heap.size + 2) := by
    rcases ho.2 with ⟨h0, _⟩ | ⟨g, cap, cur, e, _, hgg, _, _, hcs, htk⟩
    · cases h0
    · cases e
      refine ⟨cur, hgg, by simpa using hcs, fun k hk => ⟨false, ?_⟩⟩
      have hc := ho.cellAt k (by omega)
      rw [cell_at hgg] at hc
      rw [hc]
      simp [madeCells, Value.cells, hk, Nat.mod_one]
  have nT : ¬ Pd w.heap.size [w.heap.size + 2, w.heap.size + 1] w.heap.size := fun e => by
    rcases e with e | e
    · omega
    · simp at e
  have no : ∀ x, x ∈ ([] : List Nat) → False := fun x hx => by cases hx
  refine ⟨⟨fun k hk => ?_, by omega, ⟨hT, nT⟩, ⟨fun x hx => (no x hx).elim, fun x hx => (no x hx).elim, fun x hx => (no x hx).elim⟩, ⟨fun x hx => (no x hx).elim, fun x hx => (no x hx).elim⟩, ⟨fun x hx => (no x hx).elim, fun x hx => (no x hx).elim⟩, ⟨fun x hx => own_nil _ _ _ _, (fun x hx k hk => by cases hk), (fun x y k hx hy hk => by cases hk)⟩, ⟨fun x hx => (no x hx).elim, fun x hx => (no x hx).elim, fun x hx => (no x hx).elim⟩, ⟨own_nil _ _ _ _, (fun k hk => by cases hk)⟩, ⟨(fun b e => by cases e), (fun b e => by cases e), fun e => rfl, (fun b e => by cases e), (fun b e => by cases e), (fun b e => by cases e)⟩⟩, ⟨fun x hx => (no x hx).elim, fun x hx => (no x hx).elim, fun x hx => (no x hx).elim, fun x hx => (no x hx).elim, fun x hx => (no x hx).elim, fun x hx => (no x hx).elim, fun x hx => (no x hx).elim, fun x hx => (no x hx).elim, fun x hx => (no x hx).elim, Nat.zero_le _⟩, rfl, rfl, .nil, fun x hx => (no x hx).elim, by omega, rfl, (fun y e => by cases e), (fun y b e => by cases e), own_nil _ _ _ _, (fun g e => by cases e), by simp, (fun i hi => by simp at hi ⊢; exact .inr hi), by simp, fun e => ?_, hA, hN, ?_⟩
  · rcases hk with e | e
    · omega
    · simp at e
      omega
  · rcases e with e | e
    · omega
    · simp at e
  · exact ⟨hg.os, hg.tape, hg.output, by have := hg.size; simp at this; omega, fun k hk => by
      rcases hk with hk | hk
      · exact (hg.block k (by simp; omega) (by simp)).trans ((Below.heap_alloc _ _ _ (by simp; omega)).trans (Below.heap_alloc _ _ _ hk))
      · cases hk⟩

set_option maxHeartbeats 4000000 in
theorem law_main (SC : SortC) (a : Option Addr) (n cap : Nat) (th : Bool) (l : List O4) (w : World) (hl : InO w a n l) (hn : n ≤ 1024) :
    Calls Yba.prog 6 #[.slice a n cap, .bool th] w fun e w' => e = .returned (.bool true) ∧ Below w.heap.size w w' := by
  have hn' : ¬ (1024 : Int) < (n : Int) := by omega
  have HL := hide hl
  clear hl
  obtain ⟨i0, hi0, hz0, hz1, hz2⟩ := info_at info4
  go_enter Yba.func6, Yba.ntmps6
  go_upto_region 8 with (at_make; refine wpList_make_full _ rfl _ _ 57 rfl 0 4 i0 _ 1 Yba.underlying57 hi0 hz0 hz1 .i64 .i64 64 64 64 rfl rfl rfl rfl (by rw [hz2]; omega) (by unfold maxLen; omega) (Nat.zero_le _) ?_; intro w1 ho1 hg1; have P := hide (And.intro ho1 hg1); clear ho1 hg1)
  have L0 := LI.start (th := th) (by simpa using P.out.1) P.out.2
  have HL0 := hide L0
  clear L0 P
  generalize hN : w.heap.size = N at *
  have hN' := hide hN
  clear hN
  have L0 : LI N N (N + 1 + 1) (N + 1) w w1 0 0 (.slice none 0 0) _ _ (S0 th) := HL0.out
  clear HL0
  generalize N + 1 + 1 = ab at L0 ⊢
  generalize N + 1 = nb at L0 ⊢
  have HL0 := hide L0
  clear L0
  go_wp2
  go_loopw [8, 9, 27] (fun v8 v9 q wx => ∃ (k nx : Nat) (D0 D : List Nat) (S : St), k ≤ n ∧ v9 = .int .i64 (nx : Int) ∧ q = .int .i64 (k : Int) ∧ LI N N ab nb w wx k nx v8 D0 D S) (fun _ _ q _ => n - (intOf q).toNat)
  case atStart => exact ⟨0, 0, _, _, _, Nat.zero_le _, rfl, rfl, HL0.out⟩
  case round =>
    obtain ⟨k, nx, D0, D, S, hk, rfl, rfl, hI⟩ := hrel
    by_cases hkn : k < n
    · have hkn' : (k : Int) < (n : Int) := by omega
      obtain ⟨b0, off, rfl, lb0, hat⟩ := HL.out.at_ (by omega)
      have hat' := hat k (by rw [HL.out.len]; exact hkn)
      generalize l[k]'(by rw [HL.out.len]; exact hkn) = op at hat'
      obtain ⟨o, pa, pb, pc⟩ := op
      obtain ⟨⟨lo, lpa, lpb⟩, x0, x1, x2, x3⟩ := hat'
      have eb := hI.fr.block b0 (.inl (by rw [← hN'.out]; exact lb0))
      replace x0 := (World.cell?_of_block (a := ⟨b0, off + k * 4, none⟩) eb).trans x0
      replace x1 := (World.cell?_of_block (a := ⟨b0, off + k * 4 + 1, none⟩) eb).trans x1
      replace x2 := (World.cell?_of_block (a := ⟨b0, off + k * 4 + 2, none⟩) eb).trans x2
      replace x3 := (World.cell?_of_block (a := ⟨b0, off + k * 4 + 3, none⟩) eb).trans x3
      have II := hide hI
      clear hI hat eb lb0
      go_upto_region 12 with fail
      have X0 : (wr.alloc (.cells #[.int .u8 (o : Int), .int .u8 (pa : Int), .int .u8 (pb : Int), .bool pc] 60)).heap[wr.heap.size]? = some (.cells #[.int .u8 (o : Int), .int .u8 (pa : Int), .int .u8 (pb : Int), .bool pc] 60 (0, 0)) := heap_alloc_new _ _
      have hI := II.out.allocD (.cells #[.int .u8 (o : Int), .int .u8 (pa : Int), .int .u8 (pb : Int), .bool pc] 60)
      clear II x0 x1 x2 x3
      generalize wr.alloc (.cells #[.int .u8 (o : Int), .int .u8 (pa : Int), .int .u8 (pb : Int), .bool pc] 60) = W at X0 hI ⊢
      generalize wr.heap.size = X at X0 hI ⊢
      have dX : X ∈ X :: D0 := by simp
      generalize X :: D0 = D0 at hI dX ⊢
      generalize X :: D = D at hI ⊢
      have y0 : W.cell? ⟨X, 0, none⟩ = some (.int .u8 (o : Int)) := (cell_at X0 0).trans rfl
      have y1 : W.cell? ⟨X, 1, none⟩ = some (.int .u8 (pa : Int)) := (cell_at X0 1).trans rfl
      have y2 : W.cell? ⟨X, 2, none⟩ = some (.int .u8 (pb : Int)) := (cell_at X0 2).trans rfl
      have y3 : W.cell? ⟨X, 3, none⟩ = some (.bool pc) := (cell_at X0 3).trans rfl
      have II := hide hI
      obtain ⟨ha, hk8, rfl⟩ := sl_shape hI.row
      obtain ⟨L, hL⟩ : ∃ L, S.hs.length = L := ⟨_, rfl⟩
      have hL64 : L ≤ 64 := by rw [← hL]; exact len_le 64 S.hs (nod_of hI.sp) hI.inv.lt
      rw [hL]
      have HLn := hide hL
      have hI' : LI N N ab nb w W k nx (.slice ha L hk8) D0 D S := by
        have := hI
        rw [hL] at this
        exact this
      have hk10 : k < 1024 := by omega
      have HI' := hide hI'
      clear hI X0 II hI'
      have HK : Hid (∀ (v8 v9 : Value) (nx1 : Nat) (w' : World) (D0' D' : List Nat) (S' : St), v9 = .int .i64 (nx1 : Int) → LI N N ab nb w w' (k + 1) nx1 v8 D0' D' S' → ∃ (k' nx' : Nat) (E0 E : List Nat) (S1 : St), k' ≤ n ∧ v9 = .int .i64 (nx' : Int) ∧ Value.int .i64 ((k : Int) + 1) = .int .i64 (k' : Int) ∧ LI N N ab nb w w' k' nx' v8 E0 E S1) := fun v8 v9 nx1 w' D0' D' S' e1 e2 => ⟨k + 1, nx1, D0', D', S', hkn, e1, by simp, e2⟩
      rcases (by omega : o % 4 = 0 ∨ o % 4 = 1 ∨ o % 4 = 2 ∨ o % 4 = 3) with hr | hr | hr | hr
      · refine round0 (pc := pc) SC (by assumption) HI'.out hL hL64 dX hk10 lo lpa lpb y0 y1 y2 y3 (by omega) ?_
        intro v8 v9 nx1 t12 t13 t14 t15 t16 t33 t34 t35 t36 t37 t38 t39 t40 t41 t42 t43 t44 t45 t46 t47 t48 t49 t50 t51 t52 t53 t54 t55 t56 t57 t58 t59 t60 t61 t62 t63 t64 t65 t66 t67 t68 t69 t70 t71 t72 t73 t74 t75 t76 t77 t78 t79 t80 t81 t82 t83 t84 t85 t86 t87 t88 t89 t90 t91 t92 t93 t94 t95 t96 t97 t98 t99 t100 t101 t102 t103 t104 t105 t106 t107 t108 t109 t110 t111 t112 t113 t114 t115 t116 t117 t118 t119 t120 t121 t122 t123 t124 t125 t126 t127 t128 t129 t130 t131 t132 t133 t134 t135 t136 t137 t138 t139 t140 t141 t142 t143 t144 t145 t146 w' D0' D' S' e1 e2
        have E := hide (HK.out v8 v9 nx1 w' D0' D' S' e1 e2)
        clear HK e1 e2 HI' y0 y1 y2 y3
        refine (fun h => And.intro h h) ?_
        go_wp2
        go_roundw
        case rel => (repeat apply Exists.intro); exact ⟨E.out, rfl⟩
        case measure => simp [intOf]; omega
      · refine round1 (pc := pc) SC (by assumption) HI'.out hL hL64 dX hk10 lo lpa lpb y0 y1 y2 y3 (by omega) ?_
        intro v8 v9 nx1 t12 t13 t14 t15 t16 t33 t34 t35 t36 t37 t38 t39 t40 t41 t42 t43 t44 t45 t46 t47 t48 t49 t50 t51 t52 t53 t54 t55 t56 t57 t58 t59 t60 t61 t62 t63 t64 t65 t66 t67 t68 t69 t70 t71 t72 t73 t74 t75 t76 t77 t78 t79 t80 t81 t82 t83 t84 t85 t86 t87 t88 t89 t90 t91 t92 t93 t94 t95 t96 t97 t98 t99 t100 t101 t102 t103 t104 t105 t106 t107 t108 t109 t110 t111 t112 t113 t114 t115 t116 t117 t118 t119 t120 t121 t122 t123 t124 t125 t126 t127 t128 t129 t130 t131 t132 t133 t134 t135 t136 t137 t138 t139 t140 t141 t142 t143 t144 t145 t146 w' D0' D' S' e1 e2
        have E := hide (HK.out v8 v9 nx1 w' D0' D' S' e1 e2)
        clear HK e1 e2 HI' y0 y1 y2 y3
        refine (fun h => And.intro h h) ?_
        go_wp2
        go_roundw
        case rel => (repeat apply Exists.intro); exact ⟨E.out, rfl⟩
        case measure => simp [intOf]; omega
      · refine round2 (pc := pc) SC (by assumption) HI'.out hL hL64 dX hk10 lo lpa lpb y0 y1 y2 y3 (by omega) ?_
        intro v8 v9 nx1 t12 t13 t14 t15 t16 t33 t34 t35 t36 t37 t38 t39 t40 t41 t42 t43 t44 t45 t46 t47 t48 t49 t50 t51 t52 t53 t54 t55 t56 t57 t58 t59 t60 t61 t62 t63 t64 t65 t66 t67 t68 t69 t70 t71 t72 t73 t74 t75 t76 t77 t78 t79 t80 t81 t82 t83 t84 t85 t86 t87 t88 t89 t90 t91 t92 t93 t94 t95 t96 t97 t98 t99 t100 t101 t102 t103 t104 t105 t106 t107 t108 t109 t110 t111 t112 t113 t114 t115 t116 t117 t118 t119 t120 t121 t122 t123 t124 t125 t126 t127 t128 t129 t130 t131 t132 t133 t134 t135 t136 t137 t138 t139 t140 t141 t142 t143 t144 t145 t146 w' D0' D' S' e1 e2
        have E := hide (HK.out v8 v9 nx1 w' D0' D' S' e1 e2)
        clear HK e1 e2 HI' y0 y1 y2 y3
        refine (fun h => And.intro h h) ?_
        go_wp2
        go_roundw
        case rel => (repeat apply Exists.intro); exact ⟨E.out, rfl⟩
        case measure => simp [intOf]; omega
      · refine round3 (pc := pc) SC (by assumption) HI'.out hL hL64 dX hk10 lo lpa lpb y0 y1 y2 y3 (by omega) ?_
        intro v8 v9 nx1 t12 t13 t14 t15 t16 t33 t34 t35 t36 t37 t38 t39 t40 t41 t42 t43 t44 t45 t46 t47 t48 t49 t50 t51 t52 t53 t54 t55 t56 t57 t58 t59 t60 t61 t62 t63 t64 t65 t66 t67 t68 t69 t70 t71 t72 t73 t74 t75 t76 t77 t78 t79 t80 t81 t82 t83 t84 t85 t86 t87 t88 t89 t90 t91 t92 t93 t94 t95 t96 t97 t98 t99 t100 t101 t102 t103 t104 t105 t106 t107 t108 t109 t110 t111 t112 t113 t114 t115 t116 t117 t118 t119 t120 t121 t122 t123 t124 t125 t126 t127 t128 t129 t130 t131 t132 t133 t134 t135 t136 t137 t138 t139 t140 t141 t142 t143 t144 t145 t146 w' D0' D' S' e1 e2
        have E := hide (HK.out v8 v9 nx1 w' D0' D' S' e1 e2)
        clear HK e1 e2 HI' y0 y1 y2 y3
        refine (fun h => And.intro h h) ?_
        go_wp2
        go_roundw
        case rel => (repeat apply Exists.intro); exact ⟨E.out, rfl⟩
        case measure => simp [intOf]; omega
    · have hkn' : ¬ (k : Int) < (n : Int) := by omega
      have HP : Hid (Below N w wr) := ⟨hI.fr.os, hI.fr.tape, hI.fr.output, hI.fr.size, fun i hi => hI.fr.block i (.inl hi)⟩
      clear hI
      go_wp2
      go_ret
      exact ⟨rfl, by rw [hN'.out]; exact HP.out⟩
end Go.Proofs.Ybulkaggi.CE

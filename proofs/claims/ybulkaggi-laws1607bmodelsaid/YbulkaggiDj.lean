import Derived.Test.YbulkaggiDh
import Derived.Test.YbulkaggiDi
namespace Go.Proofs.Ybulkaggi.BM
open Go.RowKit Go.Proofs.Ybulkaggi Go.Sort Go.Shelf Go.Lib
open Go.Proofs.Ybulkaggi.CE (hlt tag_ne own_tag own_keep size_set info_at rgOf)
set_option linter.unusedVariables false
set_option maxRecDepth 100000

abbrev z5 : Array Value := #[.int .i64 0, .int .i64 0, .int .i64 0, .int .i64 0, .int .i64 0]
abbrev b5 : Array Value := #[.bool false, .bool false, .bool false, .bool false, .bool false]
theorem ar_z5 {w : World} {B : Nat} (h : w.heap[B]? = some (.cells z5 101 (0, 0))) : Ar w B 101 (fun t => .int .i64 (((fun _ => 0 : Nat → Nat) t : Nat) : Int)) := ⟨_, h, fun t ht => by
  rcases (by omega : t = 0 ∨ t = 1 ∨ t = 2 ∨ t = 3 ∨ t = 4) with rfl | rfl | rfl | rfl | rfl <;> rfl⟩
theorem ar_b5 {w : World} {B : Nat} (h : w.heap[B]? = some (.cells b5 102 (0, 0))) : Ar w B 102 (fun t => .bool ((fun _ => false : Nat → Bool) t)) := ⟨_, h, fun t ht => by
  rcases (by omega : t = 0 ∨ t = 1 ∨ t = 2 ∨ t = 3 ∨ t = 4) with rfl | rfl | rfl | rfl | rfl <;> rfl⟩
theorem b75_rep : Yba.zeroCells105 = Array.replicate 75 (.bool false) := by kernel_rfl
theorem ar_b75 {w : World} {B : Nat} {v : T3 → Bool} (h : w.heap[B]? = some (.cells Yba.zeroCells105 105 (0, 0))) (hv : ∀ t, v t = false) : Ar3 w B v := ⟨_, h, fun a b k ha hb hk => by
  rw [b75_rep, hv, Array.getElem?_replicate, if_pos (by omega)]⟩
theorem P2.start (L : List O3) (n : Nat) (s : Nat → Nat) (hl : L.length = n) (hn : n ≤ 256) (hs : ∀ t, 1 ≤ t → t ≤ 4 → s t = n) (h0 : s 0 = 0) (h4 : ∀ t, s t ≤ 256) : P2 L 0 (fun _ => false) (fun _ => 0) (fun _ => 0) s :=
  ⟨fun t _ => ⟨fun e => absurd e (by decide), fun ⟨p, h, _⟩ => by omega⟩, fun t ⟨p, h, _⟩ => by omega, fun t ⟨p, h, _⟩ => by omega, fun t h1 h2 => .inl ⟨(hs t h1 h2).trans hl.symm, fun q hq => by omega⟩, fun t => ⟨by omega, by omega, h4 t⟩⟩

def ModPost (w : World) (L : List O3) (e : Ending) (w' : World) : Prop := ∃ v, ∃ fl : List An2, ∃ M : Md, e = .returned v ∧ w'.ownsRow w.heap.size 32 4 v fl.length (fl.flatMap encN) ∧ (∀ x ∈ fl, ItN w' x ∧ w.heap.size ≤ x.g) ∧ M.L = L ∧ P2 L L.length M.sn M.f M.l M.s ∧ fl.map An2.key = allT.flatMap M.k0 ++ kW (M.bf allT) (M.af allT) ∧ Below w.heap.size w w'

set_option maxHeartbeats 8000000 in
theorem model_any (g n c : Nat) (L : List O3) (w : World) (hn : n ≤ 256) (hl : L.length = n) (h : OpsAt w g L) (hg : g < w.heap.size) :
    Calls Yba.prog 16 #[.slice (some ⟨g, 0, none⟩) n c] w (ModPost w L) := by
  have H := hide h
  have HL := hide hl
  clear h hl
  go_enter Yba.func16, Yba.ntmps16
  go_upto_region 5 with fail
  obtain ⟨W, hW⟩ : ∃ W, W = (((w.alloc (.cells z5 101)).alloc (.cells z5 101)).alloc (.cells z5 101)).alloc (.cells b5 102) := ⟨_, rfl⟩
  have kF : W.heap[w.heap.size]? = some (.cells z5 101 (0, 0)) := by
    rw [hW, Below.heap_alloc _ _ _ (by simp <;> omega), Below.heap_alloc _ _ _ (by simp <;> omega), Below.heap_alloc _ _ _ (by simp)]
    exact heap_alloc_new w _
  have kL : W.heap[w.heap.size + 1]? = some (.cells z5 101 (0, 0)) := by
    rw [hW, Below.heap_alloc _ _ _ (by simp <;> omega), Below.heap_alloc _ _ _ (by simp)]
    have := heap_alloc_new (w.alloc (.cells z5 101)) (.cells z5 101)
    simpa using this
  have kA : W.heap[w.heap.size + 1 + 1]? = some (.cells z5 101 (0, 0)) := by
    rw [hW, Below.heap_alloc _ _ _ (by simp)]
    have := heap_alloc_new ((w.alloc (.cells z5 101)).alloc (.cells z5 101)) (.cells z5 101)
    simpa using this
  have kS : W.heap[w.heap.size + 1 + 1 + 1]? = some (.cells b5 102 (0, 0)) := by
    rw [hW]
    have := heap_alloc_new (((w.alloc (.cells z5 101)).alloc (.cells z5 101)).alloc (.cells z5 101)) (.cells b5 102)
    simpa using this
  have hb : Below w.heap.size w W := by
    rw [hW]
    exact ((((Below.refl _ _).alloc (by omega) _).alloc (by simp) _).alloc (by simp; omega) _).alloc (by simp; omega) _
  have hsz : w.heap.size + 4 ≤ W.heap.size := by rw [hW]; simp
  have HB := hide hb
  have KF := hide kF
  have KL := hide kL
  have KA := hide kA
  have KS := hide kS
  rw [show (((w.alloc (.cells z5 101)).alloc (.cells z5 101)).alloc (.cells z5 101)).alloc (.cells b5 102) = W from hW.symm]
  clear hW kF kL kA kS hb
  obtain ⟨N, hN⟩ : ∃ N, N = w.heap.size := ⟨_, rfl⟩
  rw [← hN] at KF KL KA KS HB hsz hg ⊢
  have HNN := hide hN
  clear hN
  refine m_loop1 (N := N) (n := n) (AB := N + 1 + 1) (f := fun _ => 0) (by omega) (ar_z5 KA.out) ?_
  intro t8 t37 t38 t39 t40 t41 t42 t43 w1 s1 q1 q2 q3 q4 q5 q6
  have HA4 := hide (show A4 w1 N (N + 1) (N + 1 + 1) (N + 1 + 1 + 1) (fun _ => false) (fun _ => 0) (fun _ => 0) (fun t => if t ≤ 4 then s1 t else 0) from ⟨ar_z5 ((q6 _ (by omega)).trans KF.out), ar_z5 ((q6 _ (by omega)).trans KL.out), by
    obtain ⟨cs, g1, g2⟩ := q1
    exact ⟨cs, g1, fun t ht => by simp only [ht, if_true]; exact g2 t ht⟩, ar_b5 ((q6 _ (by omega)).trans KS.out)⟩)
  have HP0 := hide (P2.start L n (fun t => if t ≤ 4 then s1 t else 0) HL.out hn (fun t h1 h2 => by simp only [h2, if_true]; exact q2 t h1 h2) (by simpa using q3) (fun t => by
    by_cases e : t ≤ 4
    · simp only [e, if_true]
      by_cases e0 : t = 0
      · subst e0
        rw [q3]
        omega
      · rw [q2 t (by omega) e]
        exact hn
    · simp only [e, if_false]
      omega))
  have HB1 := hide (HB.out.trans q4)
  have hsz1 : N + 4 ≤ w1.heap.size := by omega
  have HO1 := hide (H.out.keep (HB1.out.block g hg))
  clear q1 q2 q3 q4 q5 q6 HB KF KL KA KS hsz
  go_upto_region 9 with fail
  refine m_loop2 (N := N) (g := g) (n := n) (c := c) (F := N) (LA := N + 1) (AB := N + 1 + 1) (S := N + 1 + 1 + 1) (L := L) (sn := fun _ => false) (f := fun _ => 0) (l := fun _ => 0) (s := fun t => if t ≤ 4 then s1 t else 0) hn HL.out HO1.out hg (by omega) (by omega) (by omega) (by omega) (by omega) (by omega) (by omega) (by omega) (by omega) (by omega) (by omega) HA4.out HP0.out ?_
  intro t9 t10 t11 t46 t47 t48 t49 t50 t51 t52 t53 t54 t55 t56 t57 t58 t59 t60 t61 t62 t63 t64 t65 t66 t67 t68 t69 t70 t71 w2 sn f l s q1 q2 q3
  obtain ⟨M, hM⟩ : ∃ M : Md, M = ⟨L, sn, f, l, s⟩ := ⟨_, rfl⟩
  have HP := hide (show P2 L n M.sn M.f M.l M.s by rw [hM]; exact q2)
  have HML := hide (show M.L = L by rw [hM])
  have HBD := hide (show ∀ t, M.f t ≤ 256 ∧ M.l t ≤ 256 ∧ M.s t ≤ 256 by rw [hM]; exact q2.bd)
  have HB2 := hide (HB1.out.trans q3)
  have hsz2 : N + 4 ≤ w2.heap.size := by have := q3.size; omega
  have HA2 := hide (show A4 w2 N (N + 1) (N + 1 + 1) (N + 1 + 1 + 1) M.sn M.f M.l M.s by rw [hM]; exact q1)
  have HO2 := hide (HO1.out.keep (q3.block g hg))
  clear q1 q2 q3 HB1 HA4 HP0 HO1 hM
  go_upto_region 23 with fail
  obtain ⟨W, hW⟩ : ∃ W, W = ((w2.alloc (.cells itsC 56)).alloc (.cells Yba.zeroCells105 105)).alloc (.cells Yba.zeroCells105 105) := ⟨_, rfl⟩
  have kI : W.heap[w2.heap.size]? = some (.cells itsC 56 (0, 0)) := by
    rw [hW, Below.heap_alloc _ _ _ (by simp <;> omega), Below.heap_alloc _ _ _ (by simp)]
    exact heap_alloc_new w2 _
  have kB : W.heap[w2.heap.size + 1]? = some (.cells Yba.zeroCells105 105 (0, 0)) := by
    rw [hW, Below.heap_alloc _ _ _ (by simp)]
    have := heap_alloc_new (w2.alloc (.cells itsC 56)) (.cells Yba.zeroCells105 105)
    simpa using this
  have kA : W.heap[w2.heap.size + 1 + 1]? = some (.cells Yba.zeroCells105 105 (0, 0)) := by
    rw [hW]
    have := heap_alloc_new ((w2.alloc (.cells itsC 56)).alloc (.cells Yba.zeroCells105 105)) (.cells Yba.zeroCells105 105)
    simpa using this
  have HB3 := hide (show Below N w W by
    rw [hW]
    exact ((HB2.out.alloc (by omega) _).alloc (by simp; omega) _).alloc (by simp; omega) _)
  have HRC := hide (show RC W g N (N + 1) (N + 1 + 1) (N + 1 + 1 + 1) M by
    obtain ⟨a1, a2, a3, a4⟩ := HA2.out
    rw [hW]
    refine ⟨?_, ((a1.al _).al _).al _, ((a2.al _).al _).al _, ((a3.al _).al _).al _, ((a4.al _).al _).al _⟩
    rw [HML.out]
    refine HO2.out.keep ?_
    rw [Below.heap_alloc _ _ _ (by simp <;> omega), Below.heap_alloc _ _ _ (by simp <;> omega), Below.heap_alloc _ _ _ (by omega)])
  have HST := hide (show MSt N W (w2.heap.size + 1) (w2.heap.size + 1 + 1) (.slice none 0 0) M [] from ⟨[], ⟨World.ownsRow_nil _ _ _ _, fun x hx => by simp at hx, ar_b75 kB (fun t => by simp [Md.bf]), ar_b75 kA (fun t => by simp [Md.af]), by omega, by omega, by omega⟩, rfl⟩)
  have KI := hide kI
  rw [show ((w2.alloc (.cells itsC 56)).alloc (.cells Yba.zeroCells105 105)).alloc (.cells Yba.zeroCells105 105) = W from hW.symm]
  clear hW kI kB kA HA2 HO2 HB2
  refine m_loop3 (g := g) (n := n) (c := c) (IT := w2.heap.size) (N := N) (F := N) (LA := N + 1) (AB := N + 1 + 1) (S := N + 1 + 1 + 1) (BB := w2.heap.size + 1) (AA := w2.heap.size + 1 + 1) (M := M) hn (by rw [HML.out]; exact HL.out) HRC.out hg HBD.out KI.out HST.out ?_
  intro t16 t17 t18 t19 t20 t21 t22 t23 t24 t25 t26 t27 t28 t29 t30 t73 t74 t75 t76 t77 t78 t79 t80 t81 t82 t83 t84 t85 t86 t87 t88 t89 t90 t91 t92 t93 t94 t95 t96 t97 t98 t99 t100 t101 t102 t103 t104 t105 t106 t107 t108 t109 t110 t111 t112 t113 t114 t115 t116 t117 t118 t119 t120 t121 t122 t123 t124 t125 t126 t127 t128 t129 t130 t131 t132 t133 t134 t135 t136 t137 t138 t139 t140 t141 t142 t143 t144 t145 t146 t147 t148 t149 t150 t151 t152 t153 t154 t155 t156 t157 t158 t159 t160 t161 t162 t163 t164 t165 t166 t167 t168 t169 t170 t171 t172 t173 t174 t175 t176 t177 t178 t179 t180 t181 t182 t183 t184 t185 t186 t187 t188 t189 t190 t191 t192 t193 t194 t195 t196 t197 t198 t199 t200 t201 t202 t203 t204 t205 t206 t207 t208 t209 t210 t211 t212 t213 t214 t215 t216 t217 t218 t219 t220 t221 t222 t223 t224 t225 t226 t227 t228 t229 t230 t231 t232 t233 t234 t235 t236 t237 t238 t239 t240 t241 t242 t243 t244 t245 t246 t247 t248 t249 t250 t251 t252 t253 t254 v3 w3 q1 q2
  obtain ⟨fl, g1, g2⟩ := q1
  have HMP := hide (show MP N w3 (w2.heap.size + 1) (w2.heap.size + 1 + 1) v3 (M.bf allT) (M.af allT) (allT.flatMap M.k0) from ⟨fl, g1, g2⟩)
  have HB4 := hide (HB3.out.trans q2.bel)
  have KI2 := hide (q2.keep _ _ _ _ KI.out (by decide) (by decide))
  have HLE := hide (show (allT.flatMap M.k0).length ≤ 600 by
    have := done_len M allT
    have e : allT.length = 48 := by decide
    omega)
  clear q2 g1 g2 HB3 KI HRC HST HBD
  go_upto_region 76 with fail
  refine m_loop11 (IT := w2.heap.size) (N := N) HLE.out KI2.out HMP.out ?_
  intro t31 t32 t33 t34 t255 t256 t257 t258 t259 t260 t261 t262 t263 t264 t265 t266 t267 t268 t269 t270 t271 t272 t273 t274 t275 t276 t277 t278 t279 t280 t281 t282 t283 t284 t285 t286 t287 t288 t289 t290 t291 t292 t293 t294 t295 t296 t297 t298 t299 t300 t301 t302 t303 t304 v4 w4 q1 q2
  have FIN := hide (show ModPost w L (.returned v4) w4 by
    obtain ⟨fl, g1, g2⟩ := q1
    refine ⟨v4, fl, M, rfl, by rw [← HNN.out]; exact g1.row, fun x hx => by rw [← HNN.out]; exact g1.it x hx, HML.out, by rw [HL.out]; exact HP.out, g2, by rw [← HNN.out]; exact HB4.out.trans q2.bel⟩)
  clear q1 q2
  go_wp2
  go_ret
  exact FIN.out
end Go.Proofs.Ybulkaggi.BM

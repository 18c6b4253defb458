import Derived.Test.YbulkaggiBj
import Derived.BigQuiet
namespace Go.Proofs.Ybulkaggi.BM
open Go.RowKit Go.Proofs.Ybulkaggi Go.Sort Go.Shelf Go.Lib
open Go.Proofs.Ybulkaggi.CE (hlt tag_ne own_tag own_keep size_set step_append sl_shape grown_of_drew)
set_option linter.unusedVariables false
set_option maxRecDepth 100000

def ad (q : Bool) {α : Type} (x : α) : List α := if q then [x] else []
def an2 (k a b : Nat) (s : ByteArray) (g : Nat) : An2 := ⟨k, (a : Int), (b : Int), [s], g⟩
theorem wp_last {P : Program} {c : Code} {Q : Exit → Act → World → Prop} {a : Act} {w : World} (h : Code.wp P c (Exit.then (fun a w => Q .normal a w) Q) a w) : Code.wp P c Q a w := Code.wp_mono (fun e a w h => by cases e <;> exact h) h
theorem below_dN (W : World) (k : Nat) : Below W.heap.size W (W.drewN k) := ⟨rfl, rfl, rfl, Nat.le_refl _, fun _ _ => rfl⟩
theorem ad_len {α : Type} (q : Bool) (x : α) : (ad q x).length ≤ 1 := by cases q <;> simp [ad]
/-- What visit reads beside the lists. -/
structure VC (W : World) (A B C : Nat) (X : Bx) (x y : RunV) (g n c gi ta fa la sa tb fb lb sb : Nat) (s : ByteArray) (ls nr rb ra : Bool) : Prop where
  o : W.heap[X.o]? = some (.cells #[.slice (some ⟨g, 0, none⟩) n c] 39 (0, 0))
  a : W.heap[A]? = some (.cells #[Pp x.tb, .slice (some ⟨x.g, x.o, none⟩) x.A.length x.c] 94 (0, 0))
  b : W.heap[B]? = some (.cells #[Pp y.tb, .slice (some ⟨y.g, y.o, none⟩) y.A.length y.c] 94 (0, 0))
  c : W.heap[C]? = some (.cells #[.bool ls, .bool nr, .bool rb, .bool ra] 96 (0, 0))
  x : W.heap[x.tb]? = some (.cells #[.int .i64 (ta : Int), .int .i64 (fa : Int), .int .i64 (la : Int), .int .i64 (sa : Int)] 99 (0, 0))
  y : W.heap[y.tb]? = some (.cells #[.int .i64 (tb : Int), .int .i64 (fb : Int), .int .i64 (lb : Int), .int .i64 (sb : Int)] 99 (0, 0))
  n : W.heap[X.n]? = some (.cells #[.slice (some ⟨gi, 0, none⟩) 1 1] 30 (0, 0))
  gi : W.heap[gi]? = some (.cells #[.string s] 9 (0, 0))
  i : W.heap[X.i]? = some (.cells #[.string s] 9 (0, 0))
theorem VC.keep {N : Nat} {W W' : World} {A B C : Nat} {X : Bx} {x y : RunV} {g n c gi ta fa la sa tb fb lb sb : Nat} {s : ByteArray} {ls nr rb ra : Bool} (h : VC W A B C X x y g n c gi ta fa la sa tb fb lb sb s ls nr rb ra) (f : FT N W W') : VC W' A B C X x y g n c gi ta fa la sa tb fb lb sb s ls nr rb ra :=
  ⟨f.cells h.o (by decide), f.cells h.a (by decide), f.cells h.b (by decide), f.cells h.c (by decide), f.cells h.x (by decide), f.cells h.y (by decide), f.cells h.n (by decide), f.cells h.gi (by decide), f.cells h.i (by decide)⟩

def VPost (N : Nat) (w : World) (X : Bx) (fl : List An2) (bl al : List H) (E : Ev) (sa gi : Nat) (s : ByteArray) (e : Ending) (w' : World) : Prop :=
  ∃ ls nr rb ra : Bool, ∃ vf vb va : Value, e = .returned (.tuple #[]) ∧ (ls = true ↔ E.lost E.L.length ∧ sa = E.L.length ∧ E.s = E.L.length) ∧ (nr = true ↔ E.non E.L.length) ∧ (rb = true ↔ E.rb E.L.length) ∧ (ra = true ↔ E.ra E.L.length) ∧
    Ps N w' X (fl ++ ad ls (an2 0 E.a E.b s gi) ++ ad nr (an2 1 E.a E.b s gi)) (bl ++ ad rb ((E.a : Int), (E.b : Int), s)) (al ++ ad ra ((E.a : Int), (E.b : Int), s)) vf vb va ∧ FT N w w'

set_option maxHeartbeats 1000000 in
theorem visit_any (N g n c gi : Nat) (L : List O3) (w : World) (X : Bx) (fl : List An2) (bl al : List H) (vf vb va : Value) (s : ByteArray) (x y : RunV) (j ta fa la sa tb fb lb sb : Nat)
    (hn : n ≤ 256) (hl : L.length = n) (h : OpsAt w g L) (hg : g < w.heap.size) (hx : RunAt w L j x ta fa la sa) (hy : RunAt w L j y tb fb lb sb) (hab : ta ≠ tb)
    (hS : Ps N w X fl bl al vf vb va) (lf : fl.length ≤ 1000) (lb' : bl.length ≤ 1000) (la' : al.length ≤ 1000)
    (ho : w.heap[X.o]? = some (.cells #[.slice (some ⟨g, 0, none⟩) n c] 39 (0, 0))) (hxn : w.heap[X.n]? = some (.cells #[.slice (some ⟨gi, 0, none⟩) 1 1] 30 (0, 0))) (hgi : w.heap[gi]? = some (.cells #[.string s] 9 (0, 0))) (hgN : N ≤ gi) (hxi : w.heap[X.i]? = some (.cells #[.string s] 9 (0, 0))) :
    Calls Yba.prog 32 #[x.val, y.val, Pp X.o, Pp X.f, Pp X.n, Pp X.b, Pp X.i, Pp X.a] w (VPost N w X fl bl al ⟨L, ta, tb, j, sb⟩ sa gi s) := by
  have hN : N ≤ w.heap.size := Nat.le_of_lt (Nat.lt_of_le_of_lt hS.lf (hlt hS.hf))
  have C33 : Hid (∀ w', Below w.heap.size w w' → Calls Yba.prog 33 #[.slice (some ⟨g, 0, none⟩) n c, x.val, y.val] w' (CmpPost w' ⟨L, ta, tb, j, sb⟩)) := fun w' e => compare_any g n c L w' hn hl (h.keep (e.block g hg)) (Nat.lt_of_lt_of_le hg e.size) x y j ta fa la sa tb fb lb sb (hx.keep (e.block _ (hlt hx.blk)) (e.block _ hx.lt) e.size) (hy.keep (e.block _ (hlt hy.blk)) (e.block _ hy.lt) e.size) hab
  have V0 : Hid (∀ (w2 : World) (ls nr rb ra : Bool), Below ((w.alloc (.cells #[Pp x.tb, .slice (some ⟨x.g, x.o, none⟩) x.A.length x.c] 94)).alloc (.cells #[Pp y.tb, .slice (some ⟨y.g, y.o, none⟩) y.A.length y.c] 94)).heap.size ((w.alloc (.cells #[Pp x.tb, .slice (some ⟨x.g, x.o, none⟩) x.A.length x.c] 94)).alloc (.cells #[Pp y.tb, .slice (some ⟨y.g, y.o, none⟩) y.A.length y.c] 94)) w2 →
      Ps N (w2.alloc (.cells #[.bool ls, .bool nr, .bool rb, .bool ra] 96)) X fl bl al vf vb va ∧ VC (w2.alloc (.cells #[.bool ls, .bool nr, .bool rb, .bool ra] 96)) w.heap.size (w.heap.size + 1) w2.heap.size X x y g n c gi ta fa la sa tb fb lb sb s ls nr rb ra ∧ FT N w (w2.alloc (.cells #[.bool ls, .bool nr, .bool rb, .bool ra] 96))) := fun w2 ls nr rb ra e => by
    obtain ⟨h1, h2⟩ := two_new w (.cells #[Pp x.tb, .slice (some ⟨x.g, x.o, none⟩) x.A.length x.c] 94) (.cells #[Pp y.tb, .slice (some ⟨y.g, y.o, none⟩) y.A.length y.c] 94)
    generalize hZ : (w.alloc (.cells #[Pp x.tb, .slice (some ⟨x.g, x.o, none⟩) x.A.length x.c] 94)).alloc (.cells #[Pp y.tb, .slice (some ⟨y.g, y.o, none⟩) y.A.length y.c] 94) = Z at *
    have bZ : Below w.heap.size w Z := by rw [← hZ]; exact ((Below.refl _ _).alloc (Nat.le_refl _) _).alloc (by simp) _
    have b2 : Below Z.heap.size Z (w2.alloc (.cells #[.bool ls, .bool nr, .bool rb, .bool ra] 96)) := e.alloc e.size _
    have bw : Below w.heap.size w (w2.alloc (.cells #[.bool ls, .bool nr, .bool rb, .bool ra] 96)) := bZ.trans (b2.mono bZ.size)
    have F := FT.below bw hN
    refine ⟨hS.below bw, ⟨F.cells ho (by decide), (b2.block _ (hlt h1)).trans h1, (b2.block _ (hlt h2)).trans h2, heap_alloc_new _ _, F.cells hx.blk (by decide), F.cells hy.blk (by decide), F.cells hxn (by decide), F.cells hgi (by decide), F.cells hxi (by decide)⟩, F⟩
  have co : w.cell? ⟨X.o, 0, none⟩ = some (.slice (some ⟨g, 0, none⟩) n c) := (cell_at ho 0).trans rfl
  have lo := hlt ho
  clear h hx hy hS ho hxn hgi hxi
  have HL := hide hl
  clear hl hab hg
  unfold RunV.val at *
  have BZ : Hid (Below w.heap.size w ((w.alloc (.cells #[Pp x.tb, .slice (some ⟨x.g, x.o, none⟩) x.A.length x.c] 94)).alloc (.cells #[Pp y.tb, .slice (some ⟨y.g, y.o, none⟩) y.A.length y.c] 94))) := ((Below.refl _ _).alloc (Nat.le_refl _) _).alloc (by simp) _
  go_enter Yba.func32, Yba.ntmps32
  go_upto_region 2 with (go_at_call 33; refine (C33.out _ BZ.out).mono ?_; rintro e w2 ⟨ls, nr, rb, ra, rfl, q1, q2, q3, q4, q5⟩; have VV := hide (V0.out w2 ls nr rb ra q5); have QQ := hide (And.intro q1 (And.intro q2 (And.intro q3 q4))); clear q1 q2 q3 q4 q5)
  obtain ⟨P0, v0, f0⟩ := VV.out
  generalize w2.heap.size = C at *
  generalize w2.alloc (.cells #[.bool ls, .bool nr, .bool rb, .bool ra] 96) = W at *
  generalize w.heap.size = A at *
  have HV := hide v0
  have HPs := hide P0
  have HF0 := hide f0
  have za0 : W.cell? ⟨A, 0, none⟩ = some (Pp x.tb) := (cell_at v0.a 0).trans rfl
  have zb0 : W.cell? ⟨A + 1, 0, none⟩ = some (Pp y.tb) := (cell_at v0.b 0).trans rfl
  have zx0 : W.cell? ⟨x.tb, 0, none⟩ = some (.int .i64 (ta : Int)) := (cell_at v0.x 0).trans rfl
  have zx3 : W.cell? ⟨x.tb, 3, none⟩ = some (.int .i64 (sa : Int)) := (cell_at v0.x 3).trans rfl
  have zy0 : W.cell? ⟨y.tb, 0, none⟩ = some (.int .i64 (tb : Int)) := (cell_at v0.y 0).trans rfl
  have zy3 : W.cell? ⟨y.tb, 3, none⟩ = some (.int .i64 (sb : Int)) := (cell_at v0.y 3).trans rfl
  have zo0 : W.cell? ⟨X.o, 0, none⟩ = some (.slice (some ⟨g, 0, none⟩) n c) := (cell_at v0.o 0).trans rfl
  have zn0 : W.cell? ⟨X.n, 0, none⟩ = some (.slice (some ⟨gi, 0, none⟩) 1 1) := (cell_at v0.n 0).trans rfl
  have zi0 : W.cell? ⟨X.i, 0, none⟩ = some (.string s) := (cell_at v0.i 0).trans rfl
  have zc0 : W.cell? ⟨C, 0, none⟩ = some (.bool ls) := (cell_at v0.c 0).trans rfl
  have zc1 : W.cell? ⟨C, 1, none⟩ = some (.bool nr) := (cell_at v0.c 1).trans rfl
  have zc2 : W.cell? ⟨C, 2, none⟩ = some (.bool rb) := (cell_at v0.c 2).trans rfl
  have zc3 : W.cell? ⟨C, 3, none⟩ = some (.bool ra) := (cell_at v0.c 3).trans rfl
  clear v0 P0 f0 VV V0 co C33 BZ
  go_cut [36] (fun v wx => ∃ b : Bool, v = .bool b ∧ (b = true ↔ ls = true ∧ sa = n ∧ sb = n) ∧ ∃ k, wx = W.drewN k)
  case first =>
    cases ls with
    | false =>
      go_quiet (fail)
      go_wp2
      go_meet
      exact ⟨false, rfl, by simp, _, rfl⟩
    | true =>
      by_cases h1 : sa = n
      · have h1' : ((sa : Int) == (n : Int)) = true := by simp [h1]
        by_cases h2 : sb = n
        · have h2' : ((sb : Int) == (n : Int)) = true := by simp [h2]
          have HH := hide (And.intro h1 h2)
          clear h1 h2
          go_quiet (fail)
          go_wp2
          go_meet
          exact ⟨true, rfl, by simp [HH.out.1, HH.out.2], _, rfl⟩
        · have h2' : ((sb : Int) == (n : Int)) = false := by simp; omega
          have HH := hide h2
          clear h1 h2
          go_quiet (fail)
          go_wp2
          go_meet
          exact ⟨false, rfl, by simp [HH.out], _, rfl⟩
      · have h1' : ((sa : Int) == (n : Int)) = false := by simp; omega
        have HH := hide h1
        clear h1
        go_quiet (fail)
        go_wp2
        go_meet
        exact ⟨false, rfl, by simp [HH.out], _, rfl⟩
  case rest =>
    obtain ⟨l1, rfl, hl1, k1, rfl⟩ := hcut
    have HL1 := hide hl1
    clear hl1 za0 zb0 zx0 zx3 zy0 zy3 zo0 zn0 zi0 zc0 zc1 zc2 zc3
    have HV1 := hide (HV.out.keep (FT.below (N := W.heap.size) (below_dN W k1) (Nat.le_refl _)))
    have HS1 := hide (HPs.out.below (below_dN W k1))
    have HF1 := hide (HF0.out.trans (FT.below (below_dN W k1) (Nat.le_of_lt (Nat.lt_of_le_of_lt HPs.out.lf (hlt HPs.out.hf)))))
    clear HV HPs HF0
    generalize W.drewN k1 = W1 at *
    have HVx1 := HV1.out
    have y1a0 : W1.cell? ⟨A, 0, none⟩ = some (Pp x.tb) := (cell_at HVx1.a 0).trans rfl
    have y1b0 : W1.cell? ⟨A + 1, 0, none⟩ = some (Pp y.tb) := (cell_at HVx1.b 0).trans rfl
    have y1x0 : W1.cell? ⟨x.tb, 0, none⟩ = some (.int .i64 (ta : Int)) := (cell_at HVx1.x 0).trans rfl
    have y1x3 : W1.cell? ⟨x.tb, 3, none⟩ = some (.int .i64 (sa : Int)) := (cell_at HVx1.x 3).trans rfl
    have y1y0 : W1.cell? ⟨y.tb, 0, none⟩ = some (.int .i64 (tb : Int)) := (cell_at HVx1.y 0).trans rfl
    have y1y3 : W1.cell? ⟨y.tb, 3, none⟩ = some (.int .i64 (sb : Int)) := (cell_at HVx1.y 3).trans rfl
    have y1o0 : W1.cell? ⟨X.o, 0, none⟩ = some (.slice (some ⟨g, 0, none⟩) n c) := (cell_at HVx1.o 0).trans rfl
    have y1n0 : W1.cell? ⟨X.n, 0, none⟩ = some (.slice (some ⟨gi, 0, none⟩) 1 1) := (cell_at HVx1.n 0).trans rfl
    have y1i0 : W1.cell? ⟨X.i, 0, none⟩ = some (.string s) := (cell_at HVx1.i 0).trans rfl
    have y1c0 : W1.cell? ⟨C, 0, none⟩ = some (.bool ls) := (cell_at HVx1.c 0).trans rfl
    have y1c1 : W1.cell? ⟨C, 1, none⟩ = some (.bool nr) := (cell_at HVx1.c 1).trans rfl
    have y1c2 : W1.cell? ⟨C, 2, none⟩ = some (.bool rb) := (cell_at HVx1.c 2).trans rfl
    have y1c3 : W1.cell? ⟨C, 3, none⟩ = some (.bool ra) := (cell_at HVx1.c 3).trans rfl
    clear HVx1
    go_upto_if 36 with fail
    go_cut [] (fun wx => ∃ v' : Value, Ps N wx X (fl ++ ad l1 (an2 0 ta tb s gi)) bl al v' vb va ∧ FT N W1 wx)
    case first =>
      cases l1 with
      | false =>
        have FF : Hid (∃ v' : Value, Ps N W1 X (fl ++ ad false (an2 0 ta tb s gi)) bl al v' vb va ∧ FT N W1 W1) := ⟨vf, by simpa [ad] using HS1.out, FT.refl _ _⟩
        go_wp2
        go_meet
        exact FF.out
      | true =>
        obtain ⟨sva, svc, hv⟩ := own_shape HS1.out.rf
        subst hv
        have d0 : W1.cell? ⟨X.f, 0, none⟩ = some (.slice sva fl.length svc) := (cell_at HS1.out.hf 0).trans rfl
        have f0 : W1.frozen? ⟨X.f, 0, none⟩ = false := free_at HS1.out.hf 0
        have ld := hlt HS1.out.hf
        have HN : Hid (∀ k, (Value.slice sva fl.length svc).ownBlock = some k → k ≠ X.f) := fun k hk => by
          obtain ⟨cs, hc⟩ := own_tag HS1.out.rf hk
          exact tag_ne hc HS1.out.hf (by decide)
        have OW := hide HS1.out.rf
        have hbs : N ≤ W1.heap.size := Nat.le_of_lt (Nat.lt_of_le_of_lt HS1.out.lf (hlt HS1.out.hf))
        have FIN : Hid (∀ v' w3 wx o, w3.ownsRow N 32 4 v' (fl.length + 1) (fl.flatMap encN ++ [.string (kB 0), .int .i64 (ta : Int), .int .i64 (tb : Int), .slice (some ⟨gi, 0, none⟩) 1 1]) → (W1.alloc o).grownBy w3 (Value.slice sva fl.length svc).ownBlock → (v'.ownBlock = (Value.slice sva fl.length svc).ownBlock ∨ v'.ownBlock = some (W1.alloc o).heap.size) → wx.heap = (w3.setCell ⟨X.f, 0, none⟩ v').heap → wx.os = w3.os → wx.tape = w3.tape → wx.output = w3.output → ∃ v' : Value, Ps N wx X (fl ++ ad true (an2 0 ta tb s gi)) bl al v' vb va ∧ FT N W1 wx) := fun v' w3 wx o g1 g2 g3 e0 e1 e2 e3 => ⟨v', HS1.out.pushF o (an2 0 ta tb s gi) HV1.out.gi hgN g1 g2 e0 e1 e2 e3⟩
        have LEN : fl.length ≤ 2000 := by first | (have := lf; omega) | (have := lf; have := ad_len l1 (an2 0 ta tb s gi); simp only [List.length_append]; omega)
        have hNN : ∀ k, (Value.slice sva fl.length svc).ownBlock = some k → k ≠ X.f ∧ ¬ (k = A ∨ k = A + 1 ∨ k = x.tb ∨ k = y.tb ∨ k = X.n) := fun k hk => by
          obtain ⟨cs, hc⟩ := own_tag HS1.out.rf hk
          refine ⟨tag_ne hc HS1.out.hf (by decide), ?_⟩
          rintro (e | e | e | e | e)
          · exact tag_ne hc HV1.out.a (by decide) e
          · exact tag_ne hc HV1.out.b (by decide) e
          · exact tag_ne hc HV1.out.x (by decide) e
          · exact tag_ne hc HV1.out.y (by decide) e
          · exact tag_ne hc HV1.out.n (by decide) e
        have hLL : ∀ k, (k = A ∨ k = A + 1 ∨ k = x.tb ∨ k = y.tb ∨ k = X.n) → k < W1.heap.size := fun k hk => by
          rcases hk with e | e | e | e | e
          · rw [e]; exact hlt HV1.out.a
          · rw [e]; exact hlt HV1.out.b
          · rw [e]; exact hlt HV1.out.x
          · rw [e]; exact hlt HV1.out.y
          · rw [e]; exact hlt HV1.out.n
        have hXX : ¬ (X.f = A ∨ X.f = A + 1 ∨ X.f = x.tb ∨ X.f = y.tb ∨ X.f = X.n) := by
          rintro (e | e | e | e | e)
          · exact tag_ne HS1.out.hf HV1.out.a (by decide) e
          · exact tag_ne HS1.out.hf HV1.out.b (by decide) e
          · exact tag_ne HS1.out.hf HV1.out.x (by decide) e
          · exact tag_ne HS1.out.hf HV1.out.y (by decide) e
          · exact tag_ne HS1.out.hf HV1.out.n (by decide) e
        have PR := hide (And.intro hNN (And.intro hLL hXX))
        clear HS1 hNN hLL hXX
        generalize fl.flatMap encN = XS at *
        generalize fl.length = m at *
        go_upto_region 3 with fail
        refine vreg3 (N := N) (XS := XS) (s := s) (gi := gi) d0 f0 ld y1a0 y1b0 y1x0 y1y0 y1n0 PR.out.1 PR.out.2.1 PR.out.2.2 OW.out LEN hbs ?_
        intros
        go_wp2_with fail
        go_meet
        exact FIN.out _ _ _ _ (by assumption) (by assumption) (by assumption) (by assumption) (by assumption) (by assumption) (by assumption)
    case rest =>
      obtain ⟨vf, hS', hF'⟩ := hcut
      have HV2 := hide (HV1.out.keep hF')
      have HF2 := hide (HF1.out.trans hF')
      have HS2 := hide hS'
      clear hS' hF' HS1 HV1 HF1 y1a0 y1b0 y1x0 y1x3 y1y0 y1y3 y1o0 y1n0 y1i0 y1c0 y1c1 y1c2 y1c3
      obtain ⟨W2, hW⟩ : ∃ z, z = wc := ⟨_, rfl⟩
      subst hW
      have HVx2 := HV2.out
      have y2a0 : W2.cell? ⟨A, 0, none⟩ = some (Pp x.tb) := (cell_at HVx2.a 0).trans rfl
      have y2b0 : W2.cell? ⟨A + 1, 0, none⟩ = some (Pp y.tb) := (cell_at HVx2.b 0).trans rfl
      have y2x0 : W2.cell? ⟨x.tb, 0, none⟩ = some (.int .i64 (ta : Int)) := (cell_at HVx2.x 0).trans rfl
      have y2x3 : W2.cell? ⟨x.tb, 3, none⟩ = some (.int .i64 (sa : Int)) := (cell_at HVx2.x 3).trans rfl
      have y2y0 : W2.cell? ⟨y.tb, 0, none⟩ = some (.int .i64 (tb : Int)) := (cell_at HVx2.y 0).trans rfl
      have y2y3 : W2.cell? ⟨y.tb, 3, none⟩ = some (.int .i64 (sb : Int)) := (cell_at HVx2.y 3).trans rfl
      have y2o0 : W2.cell? ⟨X.o, 0, none⟩ = some (.slice (some ⟨g, 0, none⟩) n c) := (cell_at HVx2.o 0).trans rfl
      have y2n0 : W2.cell? ⟨X.n, 0, none⟩ = some (.slice (some ⟨gi, 0, none⟩) 1 1) := (cell_at HVx2.n 0).trans rfl
      have y2i0 : W2.cell? ⟨X.i, 0, none⟩ = some (.string s) := (cell_at HVx2.i 0).trans rfl
      have y2c0 : W2.cell? ⟨C, 0, none⟩ = some (.bool ls) := (cell_at HVx2.c 0).trans rfl
      have y2c1 : W2.cell? ⟨C, 1, none⟩ = some (.bool nr) := (cell_at HVx2.c 1).trans rfl
      have y2c2 : W2.cell? ⟨C, 2, none⟩ = some (.bool rb) := (cell_at HVx2.c 2).trans rfl
      have y2c3 : W2.cell? ⟨C, 3, none⟩ = some (.bool ra) := (cell_at HVx2.c 3).trans rfl
      clear HVx2
      go_upto_if 53 with fail
      go_cut [] (fun wx => ∃ v' : Value, Ps N wx X ((fl ++ ad l1 (an2 0 ta tb s gi)) ++ ad nr (an2 1 ta tb s gi)) bl al v' vb va ∧ FT N W2 wx)
      case first =>
        cases nr with
        | false =>
          have FF : Hid (∃ v' : Value, Ps N W2 X ((fl ++ ad l1 (an2 0 ta tb s gi)) ++ ad false (an2 1 ta tb s gi)) bl al v' vb va ∧ FT N W2 W2) := ⟨vf, by simpa [ad] using HS2.out, FT.refl _ _⟩
          go_wp2
          go_meet
          exact FF.out
        | true =>
          obtain ⟨sva, svc, hv⟩ := own_shape HS2.out.rf
          subst hv
          have d0 : W2.cell? ⟨X.f, 0, none⟩ = some (.slice sva (fl ++ ad l1 (an2 0 ta tb s gi)).length svc) := (cell_at HS2.out.hf 0).trans rfl
          have f0 : W2.frozen? ⟨X.f, 0, none⟩ = false := free_at HS2.out.hf 0
          have ld := hlt HS2.out.hf
          have HN : Hid (∀ k, (Value.slice sva (fl ++ ad l1 (an2 0 ta tb s gi)).length svc).ownBlock = some k → k ≠ X.f) := fun k hk => by
            obtain ⟨cs, hc⟩ := own_tag HS2.out.rf hk
            exact tag_ne hc HS2.out.hf (by decide)
          have OW := hide HS2.out.rf
          have hbs : N ≤ W2.heap.size := Nat.le_of_lt (Nat.lt_of_le_of_lt HS2.out.lf (hlt HS2.out.hf))
          have FIN : Hid (∀ v' w3 wx o, w3.ownsRow N 32 4 v' ((fl ++ ad l1 (an2 0 ta tb s gi)).length + 1) ((fl ++ ad l1 (an2 0 ta tb s gi)).flatMap encN ++ [.string (kB 1), .int .i64 (ta : Int), .int .i64 (tb : Int), .slice (some ⟨gi, 0, none⟩) 1 1]) → (W2.alloc o).grownBy w3 (Value.slice sva (fl ++ ad l1 (an2 0 ta tb s gi)).length svc).ownBlock → (v'.ownBlock = (Value.slice sva (fl ++ ad l1 (an2 0 ta tb s gi)).length svc).ownBlock ∨ v'.ownBlock = some (W2.alloc o).heap.size) → wx.heap = (w3.setCell ⟨X.f, 0, none⟩ v').heap → wx.os = w3.os → wx.tape = w3.tape → wx.output = w3.output → ∃ v' : Value, Ps N wx X ((fl ++ ad l1 (an2 0 ta tb s gi)) ++ ad true (an2 1 ta tb s gi)) bl al v' vb va ∧ FT N W2 wx) := fun v' w3 wx o g1 g2 g3 e0 e1 e2 e3 => ⟨v', HS2.out.pushF o (an2 1 ta tb s gi) HV2.out.gi hgN g1 g2 e0 e1 e2 e3⟩
          have LEN : (fl ++ ad l1 (an2 0 ta tb s gi)).length ≤ 2000 := by first | (have := lf; omega) | (have := lf; have := ad_len l1 (an2 0 ta tb s gi); simp only [List.length_append]; omega)
          have hNN : ∀ k, (Value.slice sva (fl ++ ad l1 (an2 0 ta tb s gi)).length svc).ownBlock = some k → k ≠ X.f ∧ ¬ (k = A ∨ k = A + 1 ∨ k = x.tb ∨ k = y.tb ∨ k = X.n) := fun k hk => by
            obtain ⟨cs, hc⟩ := own_tag HS2.out.rf hk
            refine ⟨tag_ne hc HS2.out.hf (by decide), ?_⟩
            rintro (e | e | e | e | e)
            · exact tag_ne hc HV2.out.a (by decide) e
            · exact tag_ne hc HV2.out.b (by decide) e
            · exact tag_ne hc HV2.out.x (by decide) e
            · exact tag_ne hc HV2.out.y (by decide) e
            · exact tag_ne hc HV2.out.n (by decide) e
          have hLL : ∀ k, (k = A ∨ k = A + 1 ∨ k = x.tb ∨ k = y.tb ∨ k = X.n) → k < W2.heap.size := fun k hk => by
            rcases hk with e | e | e | e | e
            · rw [e]; exact hlt HV2.out.a
            · rw [e]; exact hlt HV2.out.b
            · rw [e]; exact hlt HV2.out.x
            · rw [e]; exact hlt HV2.out.y
            · rw [e]; exact hlt HV2.out.n
          have hXX : ¬ (X.f = A ∨ X.f = A + 1 ∨ X.f = x.tb ∨ X.f = y.tb ∨ X.f = X.n) := by
            rintro (e | e | e | e | e)
            · exact tag_ne HS2.out.hf HV2.out.a (by decide) e
            · exact tag_ne HS2.out.hf HV2.out.b (by decide) e
            · exact tag_ne HS2.out.hf HV2.out.x (by decide) e
            · exact tag_ne HS2.out.hf HV2.out.y (by decide) e
            · exact tag_ne HS2.out.hf HV2.out.n (by decide) e
          have PR := hide (And.intro hNN (And.intro hLL hXX))
          clear HS2 hNN hLL hXX
          generalize (fl ++ ad l1 (an2 0 ta tb s gi)).flatMap encN = XS at *
          generalize (fl ++ ad l1 (an2 0 ta tb s gi)).length = m at *
          go_upto_region 5 with fail
          refine vreg5 (N := N) (XS := XS) (s := s) (gi := gi) d0 f0 ld y2a0 y2b0 y2x0 y2y0 y2n0 PR.out.1 PR.out.2.1 PR.out.2.2 OW.out LEN hbs ?_
          intros
          go_wp2_with fail
          go_meet
          exact FIN.out _ _ _ _ (by assumption) (by assumption) (by assumption) (by assumption) (by assumption) (by assumption) (by assumption)
      case rest =>
        obtain ⟨vf, hS', hF'⟩ := hcut
        have HV3 := hide (HV2.out.keep hF')
        have HF3 := hide (HF2.out.trans hF')
        have HS3 := hide hS'
        clear hS' hF' HS2 HV2 HF2 y2a0 y2b0 y2x0 y2x3 y2y0 y2y3 y2o0 y2n0 y2i0 y2c0 y2c1 y2c2 y2c3
        obtain ⟨W3, hW⟩ : ∃ z, z = wc := ⟨_, rfl⟩
        subst hW
        have HVx3 := HV3.out
        have y3a0 : W3.cell? ⟨A, 0, none⟩ = some (Pp x.tb) := (cell_at HVx3.a 0).trans rfl
        have y3b0 : W3.cell? ⟨A + 1, 0, none⟩ = some (Pp y.tb) := (cell_at HVx3.b 0).trans rfl
        have y3x0 : W3.cell? ⟨x.tb, 0, none⟩ = some (.int .i64 (ta : Int)) := (cell_at HVx3.x 0).trans rfl
        have y3x3 : W3.cell? ⟨x.tb, 3, none⟩ = some (.int .i64 (sa : Int)) := (cell_at HVx3.x 3).trans rfl
        have y3y0 : W3.cell? ⟨y.tb, 0, none⟩ = some (.int .i64 (tb : Int)) := (cell_at HVx3.y 0).trans rfl
        have y3y3 : W3.cell? ⟨y.tb, 3, none⟩ = some (.int .i64 (sb : Int)) := (cell_at HVx3.y 3).trans rfl
        have y3o0 : W3.cell? ⟨X.o, 0, none⟩ = some (.slice (some ⟨g, 0, none⟩) n c) := (cell_at HVx3.o 0).trans rfl
        have y3n0 : W3.cell? ⟨X.n, 0, none⟩ = some (.slice (some ⟨gi, 0, none⟩) 1 1) := (cell_at HVx3.n 0).trans rfl
        have y3i0 : W3.cell? ⟨X.i, 0, none⟩ = some (.string s) := (cell_at HVx3.i 0).trans rfl
        have y3c0 : W3.cell? ⟨C, 0, none⟩ = some (.bool ls) := (cell_at HVx3.c 0).trans rfl
        have y3c1 : W3.cell? ⟨C, 1, none⟩ = some (.bool nr) := (cell_at HVx3.c 1).trans rfl
        have y3c2 : W3.cell? ⟨C, 2, none⟩ = some (.bool rb) := (cell_at HVx3.c 2).trans rfl
        have y3c3 : W3.cell? ⟨C, 3, none⟩ = some (.bool ra) := (cell_at HVx3.c 3).trans rfl
        clear HVx3
        go_upto_if 70 with fail
        go_cut [] (fun wx => ∃ v' : Value, Ps N wx X (fl ++ ad l1 (an2 0 ta tb s gi) ++ ad nr (an2 1 ta tb s gi)) (bl ++ ad rb ((ta : Int), (tb : Int), s)) al vf v' va ∧ FT N W3 wx)
        case first =>
          cases rb with
          | false =>
            have FF : Hid (∃ v' : Value, Ps N W3 X (fl ++ ad l1 (an2 0 ta tb s gi) ++ ad nr (an2 1 ta tb s gi)) (bl ++ ad false ((ta : Int), (tb : Int), s)) al vf v' va ∧ FT N W3 W3) := ⟨vb, by simpa [ad] using HS3.out, FT.refl _ _⟩
            go_wp2
            go_meet
            exact FF.out
          | true =>
            obtain ⟨sva, svc, hv⟩ := own_shape HS3.out.rb
            subst hv
            have d0 : W3.cell? ⟨X.b, 0, none⟩ = some (.slice sva bl.length svc) := (cell_at HS3.out.hb 0).trans rfl
            have f0 : W3.frozen? ⟨X.b, 0, none⟩ = false := free_at HS3.out.hb 0
            have ld := hlt HS3.out.hb
            have HN : Hid (∀ k, (Value.slice sva bl.length svc).ownBlock = some k → k ≠ X.b) := fun k hk => by
              obtain ⟨cs, hc⟩ := own_tag HS3.out.rb hk
              exact tag_ne hc HS3.out.hb (by decide)
            have OW := hide HS3.out.rb
            have hbs : N ≤ W3.heap.size := Nat.le_of_lt (Nat.lt_of_le_of_lt HS3.out.lf (hlt HS3.out.hf))
            have FIN : Hid (∀ v' w3 wx o, w3.ownsRow N 74 3 v' (bl.length + 1) (flatH bl ++ [.int .i64 (ta : Int), .int .i64 (tb : Int), .string s]) → (W3.alloc o).grownBy w3 (Value.slice sva bl.length svc).ownBlock → (v'.ownBlock = (Value.slice sva bl.length svc).ownBlock ∨ v'.ownBlock = some (W3.alloc o).heap.size) → wx.heap = (w3.setCell ⟨X.b, 0, none⟩ v').heap → wx.os = w3.os → wx.tape = w3.tape → wx.output = w3.output → ∃ v' : Value, Ps N wx X (fl ++ ad l1 (an2 0 ta tb s gi) ++ ad nr (an2 1 ta tb s gi)) (bl ++ ad true ((ta : Int), (tb : Int), s)) al vf v' va ∧ FT N W3 wx) := fun v' w3 wx o g1 g2 g3 e0 e1 e2 e3 => ⟨v', HS3.out.pushB o ((ta : Int), (tb : Int), s) g1 g2 g3 e0 e1 e2 e3⟩
            have LEN : bl.length ≤ 2000 := by first | (have := lb'; omega) | (have := lb'; have := ad_len l1 (an2 0 ta tb s gi); simp only [List.length_append]; omega)
            have hNN : ∀ k, (Value.slice sva bl.length svc).ownBlock = some k → k ≠ X.b ∧ ¬ (k = A ∨ k = A + 1 ∨ k = x.tb ∨ k = y.tb ∨ k = X.i) := fun k hk => by
              obtain ⟨cs, hc⟩ := own_tag HS3.out.rb hk
              refine ⟨tag_ne hc HS3.out.hb (by decide), ?_⟩
              rintro (e | e | e | e | e)
              · exact tag_ne hc HV3.out.a (by decide) e
              · exact tag_ne hc HV3.out.b (by decide) e
              · exact tag_ne hc HV3.out.x (by decide) e
              · exact tag_ne hc HV3.out.y (by decide) e
              · exact tag_ne hc HV3.out.i (by decide) e
            have hLL : ∀ k, (k = A ∨ k = A + 1 ∨ k = x.tb ∨ k = y.tb ∨ k = X.i) → k < W3.heap.size := fun k hk => by
              rcases hk with e | e | e | e | e
              · rw [e]; exact hlt HV3.out.a
              · rw [e]; exact hlt HV3.out.b
              · rw [e]; exact hlt HV3.out.x
              · rw [e]; exact hlt HV3.out.y
              · rw [e]; exact hlt HV3.out.i
            have hXX : ¬ (X.b = A ∨ X.b = A + 1 ∨ X.b = x.tb ∨ X.b = y.tb ∨ X.b = X.i) := by
              rintro (e | e | e | e | e)
              · exact tag_ne HS3.out.hb HV3.out.a (by decide) e
              · exact tag_ne HS3.out.hb HV3.out.b (by decide) e
              · exact tag_ne HS3.out.hb HV3.out.x (by decide) e
              · exact tag_ne HS3.out.hb HV3.out.y (by decide) e
              · exact tag_ne HS3.out.hb HV3.out.i (by decide) e
            have PR := hide (And.intro hNN (And.intro hLL hXX))
            clear HS3 hNN hLL hXX
            generalize flatH bl = XS at *
            generalize bl.length = m at *
            go_upto_region 7 with fail
            refine vreg7 (N := N) (XS := XS) (s := s) (gi := gi) d0 f0 ld y3a0 y3b0 y3x0 y3y0 y3i0 PR.out.1 PR.out.2.1 PR.out.2.2 OW.out LEN hbs ?_
            intros
            go_wp2_with fail
            go_meet
            exact FIN.out _ _ _ _ (by assumption) (by assumption) (by assumption) (by assumption) (by assumption) (by assumption) (by assumption)
        case rest =>
          obtain ⟨vb, hS', hF'⟩ := hcut
          have HV4 := hide (HV3.out.keep hF')
          have HF4 := hide (HF3.out.trans hF')
          have HS4 := hide hS'
          clear hS' hF' HS3 HV3 HF3 y3a0 y3b0 y3x0 y3x3 y3y0 y3y3 y3o0 y3n0 y3i0 y3c0 y3c1 y3c2 y3c3
          obtain ⟨W4, hW⟩ : ∃ z, z = wc := ⟨_, rfl⟩
          subst hW
          have HVx4 := HV4.out
          have y4a0 : W4.cell? ⟨A, 0, none⟩ = some (Pp x.tb) := (cell_at HVx4.a 0).trans rfl
          have y4b0 : W4.cell? ⟨A + 1, 0, none⟩ = some (Pp y.tb) := (cell_at HVx4.b 0).trans rfl
          have y4x0 : W4.cell? ⟨x.tb, 0, none⟩ = some (.int .i64 (ta : Int)) := (cell_at HVx4.x 0).trans rfl
          have y4x3 : W4.cell? ⟨x.tb, 3, none⟩ = some (.int .i64 (sa : Int)) := (cell_at HVx4.x 3).trans rfl
          have y4y0 : W4.cell? ⟨y.tb, 0, none⟩ = some (.int .i64 (tb : Int)) := (cell_at HVx4.y 0).trans rfl
          have y4y3 : W4.cell? ⟨y.tb, 3, none⟩ = some (.int .i64 (sb : Int)) := (cell_at HVx4.y 3).trans rfl
          have y4o0 : W4.cell? ⟨X.o, 0, none⟩ = some (.slice (some ⟨g, 0, none⟩) n c) := (cell_at HVx4.o 0).trans rfl
          have y4n0 : W4.cell? ⟨X.n, 0, none⟩ = some (.slice (some ⟨gi, 0, none⟩) 1 1) := (cell_at HVx4.n 0).trans rfl
          have y4i0 : W4.cell? ⟨X.i, 0, none⟩ = some (.string s) := (cell_at HVx4.i 0).trans rfl
          have y4c0 : W4.cell? ⟨C, 0, none⟩ = some (.bool ls) := (cell_at HVx4.c 0).trans rfl
          have y4c1 : W4.cell? ⟨C, 1, none⟩ = some (.bool nr) := (cell_at HVx4.c 1).trans rfl
          have y4c2 : W4.cell? ⟨C, 2, none⟩ = some (.bool rb) := (cell_at HVx4.c 2).trans rfl
          have y4c3 : W4.cell? ⟨C, 3, none⟩ = some (.bool ra) := (cell_at HVx4.c 3).trans rfl
          clear HVx4
          go_upto_if 87 with fail
          cases ra with
          | false =>
            have FF : Hid (∃ v' : Value, Ps N W4 X (fl ++ ad l1 (an2 0 ta tb s gi) ++ ad nr (an2 1 ta tb s gi)) (bl ++ ad rb ((ta : Int), (tb : Int), s)) (al ++ ad false ((ta : Int), (tb : Int), s)) vf vb v' ∧ FT N W4 W4) := ⟨va, by simpa [ad] using HS4.out, FT.refl _ _⟩
            go_wp2
            go_end0
            obtain ⟨vz, z1, z2⟩ := FF.out
            have hl := HL.out
            obtain ⟨q1, q2, q3, q4⟩ := QQ.out
            exact ⟨l1, nr, rb, false, _, _, _, rfl, by rw [HL1.out, q1]; simp only [hl], q2, q3, by simpa using q4, z1, HF4.out.trans z2⟩
          | true =>
            obtain ⟨sva, svc, hv⟩ := own_shape HS4.out.ra
            subst hv
            have d0 : W4.cell? ⟨X.a, 0, none⟩ = some (.slice sva al.length svc) := (cell_at HS4.out.ha 0).trans rfl
            have f0 : W4.frozen? ⟨X.a, 0, none⟩ = false := free_at HS4.out.ha 0
            have ld := hlt HS4.out.ha
            have HN : Hid (∀ k, (Value.slice sva al.length svc).ownBlock = some k → k ≠ X.a) := fun k hk => by
              obtain ⟨cs, hc⟩ := own_tag HS4.out.ra hk
              exact tag_ne hc HS4.out.ha (by decide)
            have OW := hide HS4.out.ra
            have hbs : N ≤ W4.heap.size := Nat.le_of_lt (Nat.lt_of_le_of_lt HS4.out.lf (hlt HS4.out.hf))
            have FIN : Hid (∀ v' w3 wx o, w3.ownsRow N 74 3 v' (al.length + 1) (flatH al ++ [.int .i64 (ta : Int), .int .i64 (tb : Int), .string s]) → (W4.alloc o).grownBy w3 (Value.slice sva al.length svc).ownBlock → (v'.ownBlock = (Value.slice sva al.length svc).ownBlock ∨ v'.ownBlock = some (W4.alloc o).heap.size) → wx.heap = (w3.setCell ⟨X.a, 0, none⟩ v').heap → wx.os = w3.os → wx.tape = w3.tape → wx.output = w3.output → ∃ v' : Value, Ps N wx X (fl ++ ad l1 (an2 0 ta tb s gi) ++ ad nr (an2 1 ta tb s gi)) (bl ++ ad rb ((ta : Int), (tb : Int), s)) (al ++ ad true ((ta : Int), (tb : Int), s)) vf vb v' ∧ FT N W4 wx) := fun v' w3 wx o g1 g2 g3 e0 e1 e2 e3 => ⟨v', HS4.out.pushA o ((ta : Int), (tb : Int), s) g1 g2 g3 e0 e1 e2 e3⟩
            have LEN : al.length ≤ 2000 := by first | (have := la'; omega) | (have := la'; have := ad_len l1 (an2 0 ta tb s gi); simp only [List.length_append]; omega)
            have hNN : ∀ k, (Value.slice sva al.length svc).ownBlock = some k → k ≠ X.a ∧ ¬ (k = A ∨ k = A + 1 ∨ k = x.tb ∨ k = y.tb ∨ k = X.i) := fun k hk => by
              obtain ⟨cs, hc⟩ := own_tag HS4.out.ra hk
              refine ⟨tag_ne hc HS4.out.ha (by decide), ?_⟩
              rintro (e | e | e | e | e)
              · exact tag_ne hc HV4.out.a (by decide) e
              · exact tag_ne hc HV4.out.b (by decide) e
              · exact tag_ne hc HV4.out.x (by decide) e
              · exact tag_ne hc HV4.out.y (by decide) e
              · exact tag_ne hc HV4.out.i (by decide) e
            have hLL : ∀ k, (k = A ∨ k = A + 1 ∨ k = x.tb ∨ k = y.tb ∨ k = X.i) → k < W4.heap.size := fun k hk => by
              rcases hk with e | e | e | e | e
              · rw [e]; exact hlt HV4.out.a
              · rw [e]; exact hlt HV4.out.b
              · rw [e]; exact hlt HV4.out.x
              · rw [e]; exact hlt HV4.out.y
              · rw [e]; exact hlt HV4.out.i
            have hXX : ¬ (X.a = A ∨ X.a = A + 1 ∨ X.a = x.tb ∨ X.a = y.tb ∨ X.a = X.i) := by
              rintro (e | e | e | e | e)
              · exact tag_ne HS4.out.ha HV4.out.a (by decide) e
              · exact tag_ne HS4.out.ha HV4.out.b (by decide) e
              · exact tag_ne HS4.out.ha HV4.out.x (by decide) e
              · exact tag_ne HS4.out.ha HV4.out.y (by decide) e
              · exact tag_ne HS4.out.ha HV4.out.i (by decide) e
            have PR := hide (And.intro hNN (And.intro hLL hXX))
            clear HS4 hNN hLL hXX
            generalize flatH al = XS at *
            generalize al.length = m at *
            go_upto_region 9 with fail
            refine wp_last ?_
            refine vreg9 (N := N) (XS := XS) (s := s) (gi := gi) d0 f0 ld y4a0 y4b0 y4x0 y4y0 y4i0 PR.out.1 PR.out.2.1 PR.out.2.2 OW.out LEN hbs ?_
            intros
            have FF := hide (FIN.out _ _ _ _ (by assumption) (by assumption) (by assumption) (by assumption) (by assumption) (by assumption) (by assumption))
            (try dsimp only)
            (try go_wp2)
            go_end0
            obtain ⟨vz, z1, z2⟩ := FF.out
            have hl := HL.out
            obtain ⟨q1, q2, q3, q4⟩ := QQ.out
            exact ⟨l1, nr, rb, true, _, _, _, rfl, by rw [HL1.out, q1]; simp only [hl], q2, q3, by simpa using q4, z1, HF4.out.trans z2⟩
end Go.Proofs.Ybulkaggi.BM

import Derived.Test.YbulkagfuC2
namespace Go.Proofs.Ybulkagfu.Split
open Go.RowKit
set_option linter.unusedVariables false
set_option maxRecDepth 100000

/-- What a build reads. -/
structure Env (w : World) (kb n cb : Nat) (K : Nat → Int) (sa : Option Addr) (sn : Nat) : Prop where
  keys : ∀ i, i < n → w.cell? ⟨kb, i, none⟩ = some (.int .u64 (K i))
  shape : 0 < sn → ∃ x, sa = some x ∧ x.block ≠ cb ∧ ∀ i, i < sn → ∃ z : Nat, z ≤ 255 ∧ w.cell? (x.add i) = some (.int .u8 z)
  kc : kb ≠ cb

theorem Env.keep {w w' : World} {kb n cb : Nat} {K : Nat → Int} {sa : Option Addr} {sn : Nat} (h : Env w kb n cb K sa sn) (k : In cb (cb + 1) w w') : Env w' kb n cb K sa sn := by
  have kc := h.kc
  refine ⟨fun i hi => k.cell (h.keys i hi) (by show kb < cb ∨ cb + 1 ≤ kb; omega), fun h0 => ?_, h.kc⟩
  obtain ⟨x, h1, h2, h3⟩ := h.shape h0
  refine ⟨x, h1, h2, fun i hi => ?_⟩
  obtain ⟨z, h4, h5⟩ := h3 i hi
  refine ⟨z, h4, k.cell h5 ?_⟩
  have e : (x.add i).block = x.block := by unfold Addr.add; split <;> simp
  rw [e]; omega

theorem In.alloc {lo hi : Nat} {a b : World} (h : In lo hi a b) (o : Obj) : In lo hi a (b.alloc o) :=
  ⟨h.os, h.tape, h.output, Nat.le_trans h.size (by simp), fun k hk ho => (Below.heap_alloc b o k (Nat.lt_of_lt_of_le hk h.size)).trans (h.block k hk ho)⟩

theorem build_nil (ks sh : Option Addr) (n n' sn sc : Nat) (lo hi : Nat) (p : Option Addr) (w : World) (h1 : hi ≤ lo) (h2 : lo ≤ 1000) :
    Calls Yba.prog 8 #[.slice ks n n', .slice sh sn sc, .int .i64 lo, .int .i64 hi, .pointer p] w fun e w' => e = .returned (.pointer none) ∧ w' = w := by
  have h1' : (hi : Int) ≤ (lo : Int) := by omega
  go_enter Yba.func8, Yba.ntmps8
  go_wp2
  go_ret
  exact ⟨rfl, rfl⟩

theorem range_split (lo mid hi : Nat) (h1 : lo ≤ mid) (h2 : mid < hi) : List.range' lo (hi - lo) = List.range' lo (mid - lo) ++ mid :: List.range' (mid + 1) (hi - (mid + 1)) := by
  have e : hi - lo = (mid - lo) + ((hi - (mid + 1)) + 1) := by omega
  rw [e, ← List.range'_append_1, List.range'_succ]
  have e2 : lo + (mid - lo) = mid := by omega
  rw [e2]

/-- What a build leaves. -/
structure Done (w w' : World) (kb n cb : Nat) (K : Nat → Int) (m lo hi c : Nat) (v : Value) (c' : Nat) : Prop where
  tree : Tr w' m w.heap.size w'.heap.size v ((List.range' lo (hi - lo)).map K)
  cell : w'.cell? ⟨cb, 0, none⟩ = some (.int .i64 c')
  free : w'.frozen? ⟨cb, 0, none⟩ = false
  most : c' ≤ c + (hi - lo)
  keep : In cb (cb + 1) w w'

theorem Tr.shape {w : World} {lo hi d : Nat} {v : Value} {ks : List Int} (h : Tr w d lo hi v ks) : ∃ p, v = .pointer p := (Tr.rd _ _ _ _ _ h).shape

theorem In.setNew {lo hi : Nat} {a b : World} (h : In lo hi a b) {p : Addr} (h1 : a.heap.size ≤ p.block) (u : Value) : In lo hi a (b.setCell p u) :=
  ⟨h.os, h.tape, h.output, by simpa [World.setCell] using h.size, fun k hk ho => (Below.heap_setCell b p u k (by omega)).trans (h.block k hk ho)⟩
theorem In.past {lo hi : Nat} {a b c : World} (h : In lo hi a b) (k : In lo hi b c) : In lo hi a c := h.trans k
theorem In.frozen {lo hi : Nat} {a b : World} (h : In lo hi a b) {p : Addr} (hl : p.block < a.heap.size) (ho : p.block < lo ∨ hi ≤ p.block) : b.frozen? p = a.frozen? p := World.frozen?_of_block (w := a) (h.block p.block hl ho)

abbrev mObj (k : Int) : Obj := .cells #[.int .i64 0, .int .u64 k, .int .u64 0, .int .u64 0, .slice none 0 0, .nilIface, .string { data := #[] }, .slice none 0 0] 50
abbrev tObj (mb : Nat) : Obj := .cells #[.int .u64 0, .pointer (some ⟨mb, 0, none⟩), .pointer none, .pointer none] 52
abbrev two (wc : World) (k : Int) : World := (wc.alloc (mObj k)).alloc (tObj wc.heap.size)

theorem two_size (wc : World) (k : Int) : (two wc k).heap.size = wc.heap.size + 2 := by simp [two]
theorem two_m (wc : World) (k : Int) : (two wc k).heap[wc.heap.size]? = some (mObj k) := (Below.heap_alloc _ _ _ (by simp)).trans (heap_alloc_new wc _)
theorem two_t (wc : World) (k : Int) : (two wc k).heap[wc.heap.size + 1]? = some (tObj wc.heap.size) := by
  have h := heap_alloc_new (wc.alloc (mObj k)) (tObj wc.heap.size)
  simpa using h
theorem two_in (lo hi : Nat) (wc : World) (k : Int) : In lo hi wc (two wc k) := ((In.refl lo hi wc).alloc _).alloc _

theorem cell_at {w : World} {b : Nat} {cs : Array Value} {t : TypeId} (h : w.heap[b]? = some (.cells cs t (0, 0))) (i : Nat) : w.cell? ⟨b, i, none⟩ = cs[i]? := by simp [World.cell?, h]
theorem free_at {w : World} {b : Nat} {cs : Array Value} {t : TypeId} (h : w.heap[b]? = some (.cells cs t (0, 0))) (i : Nat) : w.frozen? ⟨b, i, none⟩ = false := by simp [World.frozen?, h]

theorem build_mid {wc w1 : World} {kb n cb : Nat} {K : Nat → Int} {m lo mid c1 c2 : Nat} {v1 : Value} {k : Int} (hcb : cb < wc.heap.size) (D : Done (two wc k) w1 kb n cb K m lo mid c1 v1 c2) :
    w1.heap[wc.heap.size + 1]? = some (tObj wc.heap.size) ∧ w1.heap[wc.heap.size]? = some (mObj k) := by
  have sz := two_size wc k
  exact ⟨(D.keep.block _ (by omega) (.inr (by omega))).trans (two_t wc k), (D.keep.block _ (by omega) (.inr (by omega))).trans (two_m wc k)⟩

theorem build_end {w wc w1 w3 : World} {kb n cb : Nat} {K : Nat → Int} {m lo mid hi c c1 c2 c3 : Nat} {v1 v3 : Value} (hcb : cb < wc.heap.size) (hI : In cb (cb + 1) w wc) (hs : wc.heap.size = w.heap.size) (hm1 : lo ≤ mid) (hm2 : mid < hi) (hcc : c1 ≤ c + 1)
    (D1 : Done (two wc (K mid)) w1 kb n cb K m lo mid c1 v1 c2) (D2 : Done (w1.setCell ⟨wc.heap.size + 1, 2, none⟩ v1) w3 kb n cb K m (mid + 1) hi c2 v3 c3) :
    Done w (w3.setCell ⟨wc.heap.size + 1, 3, none⟩ v3) kb n cb K (m + 1) lo hi c (.pointer (some ⟨wc.heap.size + 1, 0, none⟩)) c3 := by
  obtain ⟨bt, bm⟩ := build_mid hcb D1
  have sz := two_size wc (K mid)
  have z1 := D1.keep.size
  have z2 : (w1.setCell ⟨wc.heap.size + 1, 2, none⟩ v1).heap.size = w1.heap.size := by simp [World.setCell]
  have z3 := D2.keep.size
  have z4 : (w3.setCell ⟨wc.heap.size + 1, 3, none⟩ v3).heap.size = w3.heap.size := by simp [World.setCell]
  have b2 : ∀ x, x ≠ wc.heap.size + 1 → (w1.setCell ⟨wc.heap.size + 1, 2, none⟩ v1).heap[x]? = w1.heap[x]? := fun x hx => Below.heap_setCell w1 _ _ x hx
  have b4 : ∀ x, x ≠ wc.heap.size + 1 → (w3.setCell ⟨wc.heap.size + 1, 3, none⟩ v3).heap[x]? = w3.heap[x]? := fun x hx => Below.heap_setCell w3 _ _ x hx
  have t1 : w1.cell? ⟨wc.heap.size + 1, 1, none⟩ = some (.pointer (some ⟨wc.heap.size, 0, none⟩)) := by rw [cell_at bt]; rfl
  have t2 : w1.cell? ⟨wc.heap.size + 1, 2, none⟩ = some (.pointer none) := by rw [cell_at bt]; rfl
  have t3 : w1.cell? ⟨wc.heap.size + 1, 3, none⟩ = some (.pointer none) := by rw [cell_at bt]; rfl
  have m1 : w1.cell? ⟨wc.heap.size, 1, none⟩ = some (.int .u64 (K mid)) := by rw [cell_at bm]; rfl
  have u1 : (w1.setCell ⟨wc.heap.size + 1, 2, none⟩ v1).cell? ⟨wc.heap.size + 1, 1, none⟩ = some (.pointer (some ⟨wc.heap.size, 0, none⟩)) := (World.cell?_setCell_other _ _ _ _ (by simp)).trans t1
  have u2 : (w1.setCell ⟨wc.heap.size + 1, 2, none⟩ v1).cell? ⟨wc.heap.size + 1, 2, none⟩ = some v1 := World.cell?_setCell_same _ _ _ t2
  have u3 : (w1.setCell ⟨wc.heap.size + 1, 2, none⟩ v1).cell? ⟨wc.heap.size + 1, 3, none⟩ = some (.pointer none) := (World.cell?_setCell_other _ _ _ _ (by simp)).trans t3
  have u4 : (w1.setCell ⟨wc.heap.size + 1, 2, none⟩ v1).cell? ⟨wc.heap.size, 1, none⟩ = some (.int .u64 (K mid)) := (World.cell?_setCell_other _ _ _ _ (by simp)).trans m1
  have x1 := D2.keep.cell u1 (.inr (by show cb + 1 ≤ wc.heap.size + 1; omega))
  have x2 := D2.keep.cell u2 (.inr (by show cb + 1 ≤ wc.heap.size + 1; omega))
  have x3 := D2.keep.cell u3 (.inr (by show cb + 1 ≤ wc.heap.size + 1; omega))
  have x4 := D2.keep.cell u4 (.inr (by show cb + 1 ≤ wc.heap.size; omega))
  have L := Tr.of_block (w := w1) (w' := w3.setCell ⟨wc.heap.size + 1, 3, none⟩ v3) (by omega) m (two wc (K mid)).heap.size w1.heap.size v1 _ (fun x a b c => (b4 x (by omega)).trans ((D2.keep.block x (by omega) (.inr (by omega))).trans (b2 x (by omega)))) D1.tree
  have R := Tr.of_block (w := w3) (w' := w3.setCell ⟨wc.heap.size + 1, 3, none⟩ v3) (by omega) m (w1.setCell ⟨wc.heap.size + 1, 2, none⟩ v1).heap.size w3.heap.size v3 _ (fun x a b c => b4 x (by omega)) D2.tree
  have q1 := D1.most
  have q2 := D2.most
  refine ⟨.inr ⟨wc.heap.size + 1, wc.heap.size, (two wc (K mid)).heap.size, w1.heap.size, v1, v3, (List.range' lo (mid - lo)).map K, K mid, (List.range' (mid + 1) (hi - (mid + 1))).map K, rfl, by omega, by omega, by omega, by omega, by omega, by omega, by omega, by omega, by omega, ?_, ?_, ?_, ?_, ?_, L, ?_, ?_⟩, ?_, ?_, by omega, ?_⟩
  · exact (World.cell?_setCell_other _ _ _ _ (by simp)).trans x1
  · exact (World.cell?_setCell_other _ _ _ _ (by simp)).trans x2
  · exact World.cell?_setCell_same _ _ _ x3
  · exact (World.cell?_setCell_other _ _ _ _ (by simp)).trans x4
  · intro t
    rw [World.frozen?_setCell, D2.keep.frozen (p := ⟨wc.heap.size + 1, t, none⟩) (by show wc.heap.size + 1 < _; omega) (.inr (by show cb + 1 ≤ wc.heap.size + 1; omega)), World.frozen?_setCell]
    exact free_at bt t
  · rw [z4]; rw [z2] at R; exact R
  · rw [range_split lo mid hi hm1 hm2]; simp
  · exact (World.cell?_setCell_other _ _ _ _ (by simp)).trans D2.cell
  · rw [World.frozen?_setCell]; exact D2.free
  · refine In.setNew ?_ (by show w.heap.size ≤ wc.heap.size + 1; omega) _
    have k1 : In cb (cb + 1) w w1 := (hI.trans (two_in cb (cb + 1) wc (K mid))).trans D1.keep
    exact (k1.setNew (p := ⟨wc.heap.size + 1, 2, none⟩) (by show w.heap.size ≤ wc.heap.size + 1; omega) v1).trans D2.keep

set_option maxHeartbeats 400000 in
theorem build_step (kb n cb : Nat) (K : Nat → Int) (sa : Option Addr) (sn sc : Nat) (hn : n ≤ 300) (hsn : sn ≤ 1024) (m lo hi c : Nat) (w : World) (h1 : lo < hi) (h2 : hi ≤ n) (he : Env w kb n cb K sa sn)
    (hc : w.cell? ⟨cb, 0, none⟩ = some (.int .i64 c)) (hf : w.frozen? ⟨cb, 0, none⟩ = false) (hcc : c + (hi - lo) ≤ 600)
    (ih : ∀ (lo hi c : Nat) (w : World), hi - lo ≤ m → hi ≤ n → lo ≤ n → Env w kb n cb K sa sn → w.cell? ⟨cb, 0, none⟩ = some (.int .i64 c) → w.frozen? ⟨cb, 0, none⟩ = false → c + (hi - lo) ≤ 600 →
      Calls Yba.prog 8 #[.slice (some ⟨kb, 0, none⟩) n n, .slice sa sn sc, .int .i64 lo, .int .i64 hi, .pointer (some ⟨cb, 0, none⟩)] w fun e w' => ∃ v c', e = .returned v ∧ Done w w' kb n cb K m lo hi c v c') (hm : hi - lo ≤ m + 1) :
    Calls Yba.prog 8 #[.slice (some ⟨kb, 0, none⟩) n n, .slice sa sn sc, .int .i64 lo, .int .i64 hi, .pointer (some ⟨cb, 0, none⟩)] w fun e w' => ∃ v c', e = .returned v ∧ Done w w' kb n cb K (m + 1) lo hi c v c' := by
  have h1' : ¬ (hi : Int) ≤ (lo : Int) := by omega
  have h1'' : ¬ (hi : Nat) ≤ (lo : Nat) := by omega
  have HE := hide he
  obtain ⟨ek, es, kc⟩ := he
  have HS := hide es
  have HI := hide ih
  clear es ih
  go_enter Yba.func8, Yba.ntmps8
  go_upto_if 24 with fail
  go_cut [11] (fun v wx => ∃ mid c1 : Nat, v = .int .i64 mid ∧ lo ≤ mid ∧ mid < hi ∧ wx.cell? ⟨cb, 0, none⟩ = some (.int .i64 c1) ∧ wx.frozen? ⟨cb, 0, none⟩ = false ∧ c1 ≤ c + 1 ∧ In cb (cb + 1) w wx ∧ wx.heap.size = w.heap.size)
  case first =>
    rcases Nat.eq_zero_or_pos sn with h0 | h0
    · subst h0
      go_wp2
      go_meet
      refine ⟨lo + (hi - lo) / 2, c, ?_, by omega, by omega, hc, hf, by omega, In.refl _ _ _, rfl⟩
      congr 1
      omega
    · obtain ⟨x, rfl, xb, xs⟩ := unhide HS h0
      have h0' : (0 : Int) < (sn : Int) := by omega
      obtain ⟨q, hq, hqs⟩ : ∃ q : Nat, (c : Int) % (sn : Int) = (q : Int) ∧ q < sn := ⟨c % sn, by simp, Nat.mod_lt _ h0⟩
      obtain ⟨z, hz, hxz⟩ := xs q hqs
      obtain ⟨q2, hq2, hq2s⟩ : ∃ q2 : Nat, (z : Int) % ((hi : Int) - (lo : Int)) = (q2 : Int) ∧ q2 < hi - lo := ⟨z % (hi - lo), by rw [← Int.ofNat_sub (by omega)]; simp, Nat.mod_lt _ (by omega)⟩
      go_wp2
      go_meet
      refine ⟨lo + q2, c + 1, ?_, by omega, by omega, ?_, ?_, by omega, (In.refl cb (cb + 1) w).setCell (p := ⟨cb, 0, none⟩) (Nat.le_refl cb) (Nat.lt_succ_self cb) _, by simp [World.setCell]⟩
      · congr 1
      · exact World.cell?_setCell_same _ _ _ hc
      · rw [World.frozen?_setCell]; exact hf
  case rest =>
    obtain ⟨mid, c1, rfl, hm1, hm2, hc1, hf1, hcc1, hI, hs⟩ := hcut
    have hk := hI.cell (ek mid (by omega)) (by show kb < cb ∨ cb + 1 ≤ kb; omega)
    have hcb := World.block_lt_of_cell? wc _ hc1
    simp only [] at hcb
    have E2 := (unhide HE).keep (hI.trans (two_in cb (cb + 1) wc (K mid)))
    have HL := hide (unhide HI lo mid c1 (two wc (K mid)) (by omega) (by omega) (by omega) E2 ((two_in cb cb wc (K mid)).cell hc1 (by show cb < cb ∨ cb ≤ cb; omega)) (((two_in cb cb wc (K mid)).frozen (p := ⟨cb, 0, none⟩) hcb (by show cb < cb ∨ cb ≤ cb; omega)).trans hf1) (by omega))
    have HR := hide (fun (w1 : World) (v1 : Value) (c2 : Nat) (D : Done (two wc (K mid)) w1 kb n cb K m lo mid c1 v1 c2) =>
      unhide HI (mid + 1) hi c2 (w1.setCell ⟨wc.heap.size + 1, 2, none⟩ v1) (by omega) (by omega) (by omega) ((unhide HE).keep ((((hI.trans (two_in cb (cb + 1) wc (K mid))).trans D.keep).setNew (p := ⟨wc.heap.size + 1, 2, none⟩) (by show w.heap.size ≤ wc.heap.size + 1; omega) v1)))
        ((World.cell?_setCell_other _ _ _ _ (by simp)).trans D.cell) (by rw [World.frozen?_setCell]; exact D.free) (by have := D.most; omega))
    have HM := hide (fun (w1 : World) (v1 : Value) (c2 : Nat) (D : Done (two wc (K mid)) w1 kb n cb K m lo mid c1 v1 c2) => And.intro (show w1.cell? ⟨wc.heap.size + 1, 2, none⟩ = some (.pointer none) from (cell_at (build_mid hcb D).1 2).trans rfl) (free_at (build_mid hcb D).1 2))
    have HN := hide (fun (w1 : World) (v1 : Value) (c2 : Nat) (D : Done (two wc (K mid)) w1 kb n cb K m lo mid c1 v1 c2) (w3 : World) (v3 : Value) (c3 : Nat) (D2 : Done (w1.setCell ⟨wc.heap.size + 1, 2, none⟩ v1) w3 kb n cb K m (mid + 1) hi c2 v3 c3) =>
      And.intro (show w3.cell? ⟨wc.heap.size + 1, 3, none⟩ = some (.pointer none) from D2.keep.cell ((World.cell?_setCell_other _ _ _ _ (by simp)).trans ((cell_at (build_mid hcb D).1 3).trans rfl)) (.inr (by show cb + 1 ≤ wc.heap.size + 1; omega)))
        (show w3.frozen? ⟨wc.heap.size + 1, 3, none⟩ = false from (D2.keep.frozen (p := ⟨wc.heap.size + 1, 3, none⟩) (by have := D.keep.size; have := two_size wc (K mid); show wc.heap.size + 1 < (w1.setCell _ _).heap.size; simp [World.setCell]; omega) (.inr (by show cb + 1 ≤ wc.heap.size + 1; omega))).trans ((World.frozen?_setCell _ _ _ _).trans (free_at (build_mid hcb D).1 3))))
    have HF := hide (fun (w1 : World) (v1 : Value) (c2 : Nat) (D : Done (two wc (K mid)) w1 kb n cb K m lo mid c1 v1 c2) (w3 : World) (v3 : Value) (c3 : Nat) (D2 : Done (w1.setCell ⟨wc.heap.size + 1, 2, none⟩ v1) w3 kb n cb K m (mid + 1) hi c2 v3 c3) => build_end hcb hI hs hm1 hm2 hcc1 D D2)
    obtain ⟨md, hmd⟩ : ∃ md, md = mid + 1 := ⟨_, rfl⟩
    rw [← hmd] at HR HN HF
    have hwr : ((mid : Int) + 1) = (md : Int) := by omega
    clear hI hs ek HS hc hf E2 HI HE hm hcc hcc1 hc1 hf1 hmd
    go_upto_region 9 with (go_at_call 8; refine (unhide HL).mono ?_; rintro e w1 ⟨v1, c2, rfl, D1⟩; obtain ⟨p1, rfl⟩ := D1.tree.shape; obtain ⟨g1, g2⟩ := unhide HM _ _ _ D1; have HD1 := hide D1; clear D1)
    go_wp2_with (go_at_call 8; refine (unhide HR _ _ _ (unhide HD1)).mono ?_; rintro e w3 ⟨v3, c3, rfl, D3⟩; obtain ⟨p3, rfl⟩ := D3.tree.shape; obtain ⟨g3, g4⟩ := unhide HN _ _ _ (unhide HD1) _ _ _ D3; have HD3 := hide D3; clear D3)
    go_ret
    exact ⟨_, _, rfl, unhide HF _ _ _ (unhide HD1) _ _ _ (unhide HD3)⟩

theorem build_any (kb n cb : Nat) (K : Nat → Int) (sa : Option Addr) (sn sc : Nat) (hn : n ≤ 300) (hsn : sn ≤ 1024) : ∀ (m lo hi c : Nat) (w : World), hi - lo ≤ m → hi ≤ n → lo ≤ n → Env w kb n cb K sa sn → w.cell? ⟨cb, 0, none⟩ = some (.int .i64 c) → w.frozen? ⟨cb, 0, none⟩ = false → c + (hi - lo) ≤ 600 →
      Calls Yba.prog 8 #[.slice (some ⟨kb, 0, none⟩) n n, .slice sa sn sc, .int .i64 lo, .int .i64 hi, .pointer (some ⟨cb, 0, none⟩)] w fun e w' => ∃ v c', e = .returned v ∧ Done w w' kb n cb K m lo hi c v c' := by
  have base : ∀ (m lo hi c : Nat) (w : World), hi ≤ lo → lo ≤ n → w.cell? ⟨cb, 0, none⟩ = some (.int .i64 c) → w.frozen? ⟨cb, 0, none⟩ = false →
      Calls Yba.prog 8 #[.slice (some ⟨kb, 0, none⟩) n n, .slice sa sn sc, .int .i64 lo, .int .i64 hi, .pointer (some ⟨cb, 0, none⟩)] w fun e w' => ∃ v c', e = .returned v ∧ Done w w' kb n cb K m lo hi c v c' := by
    intro m lo hi c w h1 h2 h3 h4
    refine (build_nil (some ⟨kb, 0, none⟩) sa n n sn sc lo hi (some ⟨cb, 0, none⟩) w h1 (by omega)).mono ?_
    rintro e w' ⟨rfl, rfl⟩
    have e0 : hi - lo = 0 := by omega
    refine ⟨_, c, rfl, ?_, h3, h4, by omega, In.refl _ _ _⟩
    rw [e0]
    cases m
    · exact ⟨rfl, rfl⟩
    · exact .inl ⟨rfl, rfl⟩
  intro m
  induction m with
  | zero => intro lo hi c w h1 h2 h3 h4 h5 h6 h7; exact base 0 lo hi c w (by omega) h3 h5 h6
  | succ m ih =>
    intro lo hi c w h1 h2 h3 h4 h5 h6 h7
    by_cases hlt : lo < hi
    · exact build_step kb n cb K sa sn sc hn hsn m lo hi c w hlt h2 h4 h5 h6 h7 ih h1
    · exact base (m + 1) lo hi c w (by omega) h3 h5 h6

end Go.Proofs.Ybulkagfu.Split

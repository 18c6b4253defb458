import Derived.Test.YbulkaggiC2
namespace Go.Proofs.Ybulkaggi.CE
open Go.RowKit Go.WideMaps Go.Maps
set_option linter.unusedVariables false
set_option maxRecDepth 100000

theorem key3 : Keyed Yba.prog 3 := int_keyed Yba.underlying3
theorem key9 : Keyed Yba.prog 9 := string_keyed Yba.underlying9
theorem zero53 (w : World) : (zeroValue 53).run Yba.prog w = .ok (.pointer none) w := by kernel_rfl
theorem zero115 (w : World) : (zeroValue 115).run Yba.prog w = .ok (.pointer none) w := by kernel_rfl
theorem zero113 (w : World) : (zeroValue 113).run Yba.prog w = .ok (.agg #[]) w := by kernel_rfl
def nm (j : Nat) : ByteArray := ⟨#[97 + j.toUInt8]⟩
theorem keyI (h : Nat) (hh : h < 2 ^ 62) : keyOf Yba.prog 3 (.int .i64 (h : Int)) = some (klI h) := keyOf_int_mk Yba.underlying3 (int_wf h hh)
theorem keyS (j : Nat) : keyOf Yba.prog 9 (.string (nm j)) = some (klS j) := keyOf_string_mk Yba.underlying9 (by show 1 ≤ maxLen; unfold maxLen; omega)
theorem klS_key (j : Nat) : WideAt.IsKeyLit (klS j) := by simp [klS, WideAt.IsKeyLit]

/-! ### The transactions' map -/
section
variable {w : World} {b : Nat} {ks : List Nat} {tb : Nat → Nat}
theorem TM.look (h : TM w b ks tb) {x : Nat} (hx : x < 2 ^ 62) (hk : x ∈ ks) : (Instr.lookup 49 (.map (some b)) (.int .i64 (x : Int)) false).run Yba.prog w = .ok (Pp (tb x)) w := by
  obtain ⟨n, Dm, h1, h2, h3, h4⟩ := h
  obtain ⟨v, ps, hr, hv⟩ := h1.lookup key3 Yba.underlying49 (zero53 w) ptrElem_nil (keyI x hx)
  rw [h3 x hk] at hv
  rcases ptrElem_inv hv with ⟨b', rfl, e⟩ | ⟨_, e⟩
  · have e1 : tb x = b' := by simp at e; omega
    rw [hr, e1]
  · simp at e
theorem TM.lookOk (h : TM w b ks tb) {x : Nat} (hx : x < 2 ^ 62) : ∃ v, (Instr.lookup 49 (.map (some b)) (.int .i64 (x : Int)) true).run Yba.prog w = .ok (.tuple #[v, .bool (decide (x ∈ ks))]) w := by
  obtain ⟨n, Dm, h1, h2, h3, h4⟩ := h
  obtain ⟨v, ps, hr, hv⟩ := h1.look_ok key3 Yba.underlying49 (zero53 w) ptrElem_nil (keyI x hx)
  rw [h2 x] at hr
  exact ⟨v, hr⟩
theorem TM.len (h : TM w b ks tb) (ty : TypeId) : (Builtin.len_ #[49] ty #[.map (some b)]).run Yba.prog w = .ok (.int .i64 (ks.length : Nat)) w := by
  obtain ⟨n, Dm, h1, h2, h3, h4⟩ := h
  rw [h1.len Yba.underlying49 ty, h4]
theorem TM.put (h : TM w b ks tb) {x : Nat} (hx : x < 2 ^ 62) (hk : x ∉ ks) (hl : ks.length ≤ 1000) (c : Nat) (hc : tb x = c) : ∃ w', (Instr.mapUpdate 49 (.map (some b)) (.int .i64 (x : Int)) (Pp c)).run Yba.prog w = .ok () w' ∧ TM w' b (ks ++ [x]) tb ∧ w.grownBy w' (some b) := by
  obtain ⟨n, Dm, h1, h2, h3, h4⟩ := h
  have hM := h1.isMap
  have hT := h1.tidy key3
  have h1' : w.ownsMap Yba.prog 3 ptrElem b (Maps.size Dm) Dm := by
    obtain ⟨es, cl, a1, a2, a3, a4⟩ := h1
    exact ⟨es, cl, a1, a2, by rw [a4]; simp [Maps.size, length_sorted], a4⟩
  obtain ⟨w', hr, g1, g2⟩ := h1'.store key3 Yba.underlying49 (by rw [h4]; unfold maxLen; omega) (keyI x hx) (ptrElem_mk c)
  refine ⟨w', hr, ⟨_, _, g1, fun y => ?_, fun y hy zd => ?_, ?_⟩, g2.grown⟩
  · by_cases e : y = x
    · subst e
      rw [has_put_same hM (klI_key y)]
      simp
    · rw [has_put_other (fun e' => e (klI_inj e')), h2 y]
      simp [e]
  · by_cases e : y = x
    · subst e
      rw [atKey_put_same hM (klI_key y), hc]
    · rw [atKey_put_other (fun e' => e (klI_inj e'))]
      exact h3 y (by simpa [e] using hy) zd
  · rw [size_put hT, h2 x]
    simp [hk, h4]
theorem TM.drop (h : TM w b ks tb) {x : Nat} (hx : x < 2 ^ 62) (hk : x ∈ ks) (hn : ks.Nodup) (ty : TypeId) : ∃ w', (Builtin.delete_ #[49, 3] ty #[.map (some b), .int .i64 (x : Int)]).run Yba.prog w = .ok (.tuple #[]) w' ∧ TM w' b (ks.erase x) tb ∧ w.grownBy w' (some b) := by
  obtain ⟨n, Dm, h1, h2, h3, h4⟩ := h
  have hT := h1.tidy key3
  obtain ⟨w', hr, g1, g2⟩ := h1.drop key3 Yba.underlying49 (keyI x hx) ty
  refine ⟨w', hr, ⟨_, _, g1, fun y => ?_, fun y hy zd => ?_, ?_⟩, g2.grown⟩
  · by_cases e : y = x
    · subst e
      rw [has_del_same]
      simp [hn.mem_erase_iff]
    · rw [has_del_other (fun e' => e (klI_inj e')), h2 y]
      simp [hn.mem_erase_iff, e]
  · obtain ⟨e, hy'⟩ := hn.mem_erase_iff.1 hy
    rw [atKey_del_other (fun e' => e (klI_inj e'))]
    exact h3 y hy' zd
  · have := size_del (k := klI x) hT
    rw [h2 x, h4] at this
    simp [hk] at this
    rw [List.length_erase_of_mem hk]
    omega
theorem TM.made (w : World) (tb : Nat → Nat) : TM (w.alloc (.map #[] 0)) w.heap.size [] tb := ⟨0, .map [], World.ownsMap_made w _ _ _, fun h => by simp [Maps.has], fun h hh => by simp at hh, rfl⟩
end

/-! ### The items' map -/
section
variable {w : World} {b : Nat} {its : List Nat}
theorem IM.look (h : IM w b its) (j : Nat) : ∃ o : Option Nat, (Instr.lookup 48 (.map (some b)) (.string (nm j)) false).run Yba.prog w = .ok (po o) w ∧ ∀ i, o = some i → i ∈ its := by
  obtain ⟨n, Dm, h1, h2⟩ := h
  obtain ⟨v, ps, hr, hv⟩ := h1.lookup key9 Yba.underlying48 (zero115 w) ptrElem_nil (keyS j)
  rcases ptrElem_inv hv with ⟨b', rfl, e⟩ | ⟨rfl, e⟩
  · refine ⟨some b', hr, fun i hi => ?_⟩
    cases hi
    simp only [Prod.mk.injEq] at e
    cases hh : Maps.has Dm (klS j) with
    | true =>
      obtain ⟨_, i, hi, ha⟩ := h2 _ hh
      rw [ha] at e
      have e1 : i = b' := by simp at e; omega
      exact e1 ▸ hi
    | false =>
      rw [atKey_of_not_has hh] at e
      simp at e
  · exact ⟨none, hr, fun i hi => by cases hi⟩
theorem IM.mono (h : IM w b its) {its' : List Nat} (hs : ∀ i ∈ its, i ∈ its') : IM w b its' := by
  obtain ⟨n, Dm, h1, h2⟩ := h
  refine ⟨n, Dm, h1, fun kl hk => ?_⟩
  obtain ⟨a1, i, hi, a2⟩ := h2 kl hk
  exact ⟨a1, i, hs i hi, a2⟩
theorem size3 {Dm : DataW Unit} (hc : Canon Dm) (hT : Tidy Dm) (h : ∀ kl, Maps.has Dm kl = true → ∃ j, j < 3 ∧ kl = klS j) : Maps.size Dm ≤ 3 := by
  have t1 := hT.del (klS 0)
  have t2 := t1.del (klS 1)
  have s1 := size_del (k := klS 0) hT
  have s2 := size_del (k := klS 1) t1
  have s3 := size_del (k := klS 2) t2
  have s0 : Maps.size (((Dm.del (klS 0)).del (klS 1)).del (klS 2)) = 0 := by
    obtain ⟨es, rfl, hr, hk⟩ := hc
    obtain ⟨es', e', _⟩ := t2.del (klS 2)
    rw [e', size_eq]
    cases es' with
    | nil => rfl
    | cons p r =>
      exfalso
      have hm : p ∈ es := by
        have hsub : ∀ (l : List (Lit × DataW Unit)) (kl : Lit) (q : Lit × DataW Unit) l', (DataW.map l).del kl = .map l' → q ∈ l' → q ∈ l := fun l kl q l' e hq => by
          rw [DataW.del] at e
          cases e
          exact (List.mem_filter.1 hq).1
        obtain ⟨e2, f2, _⟩ := t2
        obtain ⟨e1, f1, _⟩ := t1
        rw [f2] at e'
        rw [f1] at f2
        exact hsub _ _ _ _ f1 (hsub _ _ _ _ f2 (hsub _ _ _ _ e' (by simp)))
      have hkp := hk p hm
      have hh : Maps.has (DataW.map es) p.1 = true := List.any_eq_true.2 ⟨p, hm, WideAt.sameKey_self hkp⟩
      have hh' : Maps.has ((((DataW.map es).del (klS 0)).del (klS 1)).del (klS 2)) p.1 = true := by rw [e']; exact List.any_eq_true.2 ⟨p, by simp, WideAt.sameKey_self hkp⟩
      obtain ⟨j, hj, e⟩ := h _ hh
      rw [e] at hh'
      rcases (by omega : j = 0 ∨ j = 1 ∨ j = 2) with rfl | rfl | rfl
      · rw [has_del_other (by simp [klS]), has_del_other (by simp [klS]), has_del_same] at hh'
        cases hh'
      · rw [has_del_other (by simp [klS]), has_del_same] at hh'
        cases hh'
      · rw [has_del_same] at hh'
        cases hh'
  have f : ∀ c : Bool, (if c = true then 1 else 0) ≤ 1 := fun c => by cases c <;> simp
  have a1 := f (Maps.has Dm (klS 0))
  have a2 := f (Maps.has (Dm.del (klS 0)) (klS 1))
  have a3 := f (Maps.has ((Dm.del (klS 0)).del (klS 1)) (klS 2))
  omega
theorem IM.len (h : IM w b its) (ty : TypeId) : ∃ n : Nat, n ≤ 3 ∧ (Builtin.len_ #[48] ty #[.map (some b)]).run Yba.prog w = .ok (.int .i64 (n : Nat)) w := by
  obtain ⟨n, Dm, h1, h2⟩ := h
  exact ⟨_, size3 (h1.canon key9) (h1.tidy key9) (fun kl hk => (h2 kl hk).1), h1.len Yba.underlying48 ty⟩
theorem IM.put (h : IM w b its) {j i : Nat} (hj : j < 3) (hi : i ∈ its) : ∃ w', (Instr.mapUpdate 48 (.map (some b)) (.string (nm j)) (Pp i)).run Yba.prog w = .ok () w' ∧ IM w' b its ∧ w.grownBy w' (some b) := by
  obtain ⟨n, Dm, h1, h2⟩ := h
  have hM := h1.isMap
  have hT := h1.tidy key9
  have hsz := size3 (h1.canon key9) hT (fun kl hk => (h2 kl hk).1)
  have h1' : w.ownsMap Yba.prog 9 ptrElem b (Maps.size Dm) Dm := by
    obtain ⟨es, cl, a1, a2, a3, a4⟩ := h1
    exact ⟨es, cl, a1, a2, by rw [a4]; simp [Maps.size, length_sorted], a4⟩
  obtain ⟨w', hr, g1, g2⟩ := h1'.store key9 Yba.underlying48 (by unfold maxLen; omega) (keyS j) (ptrElem_mk i)
  refine ⟨w', hr, ⟨_, _, g1, fun kl hk => ?_⟩, g2.grown⟩
  by_cases e : kl = klS j
  · subst e
    exact ⟨⟨j, hj, rfl⟩, i, hi, fun zd => atKey_put_same hM (klS_key j) _ _⟩
  · rw [has_put_other e] at hk
    obtain ⟨a1, i', a2, a3⟩ := h2 kl hk
    exact ⟨a1, i', a2, fun zd => by rw [atKey_put_other e]; exact a3 zd⟩
theorem IM.made (w : World) (its : List Nat) : IM (w.alloc (.map #[] 0)) w.heap.size its := ⟨0, .map [], World.ownsMap_made w _ _ _, fun kl hk => by simp [Maps.has] at hk⟩
end

section
variable {N : Nat} {D : List Nat} {T : Nat} {w w' : World} {S : St}
theorem Rel.mapT (h : Rel N D T w S) {b : Nat} (hb : S.tm = some b) {ks' : List Nat} (hg : w.grownBy w' (some b)) (h1 : TM w' b ks' S.tb) : Rel N D T w' { S with ks := ks' } ∧ Fr N D w w' := by
  obtain ⟨es, c, h0⟩ := (h.m.ftm b hb).at_
  have k : ∀ t, Kt t w w' := fun t => Kt.mapped hg h0
  refine ⟨⟨fun x hx => Nat.lt_of_lt_of_le (h.low x hx) hg.size, Nat.le_trans h.lowN hg.size, h.t.keep (k _), h.x.keep (k _), h.r.keep (k _), h.i.keep (k _), h.q.keep (k _), h.v.keep (k _), h.g.keep (k _), ⟨fun x hx => (h.m.fim x hx).keep ?_, h.m.imok, fun e => ?_, fun x hx => ?_, h.m.tmok, h.m.ne⟩⟩, Fr.grown h.low hg (fun x hx => by cases hx; exact h.m.tmok b hb)⟩
  · obtain ⟨es', c', h2⟩ := (h.m.fim x hx).at_
    exact hg.block x (hlt h2) (fun e => h.m.ne x hx (hb.trans e.symm))
  · have e' : S.tm = none := e
    rw [hb] at e'
    cases e'
  · have e' : S.tm = some x := hx
    rw [hb] at e'
    cases e'
    exact h1
theorem Rel.mapI (h : Rel N D T w S) {b : Nat} (hb : S.im = some b) (hg : w.grownBy w' (some b)) (h1 : IM w' b S.its) : Rel N D T w' S ∧ Fr N D w w' := by
  obtain ⟨es, c, h0⟩ := (h.m.fim b hb).at_
  have k : ∀ t, Kt t w w' := fun t => Kt.mapped hg h0
  refine ⟨⟨fun x hx => Nat.lt_of_lt_of_le (h.low x hx) hg.size, Nat.le_trans h.lowN hg.size, h.t.keep (k _), h.x.keep (k _), h.r.keep (k _), h.i.keep (k _), h.q.keep (k _), h.v.keep (k _), h.g.keep (k _), ⟨fun x hx => ?_, h.m.imok, h.m.tm0, fun x hx => (h.m.ftm x hx).keep ?_, h.m.tmok, h.m.ne⟩⟩, Fr.grown h.low hg (fun x hx => by cases hx; exact h.m.imok b hb)⟩
  · rw [hb] at hx
    cases hx
    exact h1
  · obtain ⟨es', c', h2⟩ := (h.m.ftm x hx).at_
    exact hg.block x (hlt h2) (fun e => h.m.ne x (hb.trans e.symm) hx)
/-- Fewer transactions. -/
theorem Rel.sub (h : Rel N D T w S) {hs' : List Nat} (hs : ∀ x ∈ hs', x ∈ S.hs) : Rel N D T w { S with hs := hs' } := by
  have f : ∀ x, x ∈ hs' ∨ x = 64 → x ∈ S.hs ∨ x = 64 := fun x hx => by rcases hx with hx | hx; exact .inl (hs x hx); exact .inr hx
  exact ⟨h.low, h.lowN, h.t, ⟨fun x hx => h.x.at_ x (hs x hx), fun x hx => h.x.ok x (hs x hx), fun x hx y hy => h.x.inj x (hs x hx) y (hs y hy)⟩, ⟨fun x hx => h.r.at_ x (hs x hx), fun x hx => h.r.ok x (hs x hx)⟩, h.i, ⟨fun x hx => h.q.own x (f x hx), fun x hx => h.q.ok x (f x hx), fun x y k hx hy => h.q.inj x y k (f x hx) (f y hy)⟩, ⟨fun x hx => h.v.own x (hs x hx), fun x hx => h.v.ok x (hs x hx), fun x hx y hy => h.v.inj x (hs x hx) y (hs y hy)⟩, h.g, h.m⟩
/-- A new item. -/
theorem Rel.newI (h : Rel N D T w S) : Rel N D T (w.alloc (.cells #[.int .u64 0, .int .u64 0, .pointer none] 126 (0, 0))) { S with its := w.heap.size :: S.its, rd := upd S.rd w.heap.size 0, wn := upd S.wn w.heap.size 0, wr := upd S.wr w.heap.size none } := by
  have h' := h.alloc (.cells #[.int .u64 0, .int .u64 0, .pointer none] 126 (0, 0))
  have hn := (h.notNew (Nat.le_refl _)).2.2.2.1
  refine ⟨h'.low, h'.lowN, h'.t, h'.x, h'.r, ⟨fun x hx => ?_, fun x hx => ?_⟩, h'.q, h'.v, h'.g, ⟨fun b hb => (h'.m.fim b hb).mono (fun i hi => by simp [hi]), h'.m.imok, h'.m.tm0, h'.m.ftm, h'.m.tmok, h'.m.ne⟩⟩
  · show _ = some (Obj.cells #[.int .u64 (upd S.rd w.heap.size 0 x), .int .u64 (upd S.wn w.heap.size 0 x), po ((upd S.wr w.heap.size none x).map S.tb)] 126 (0, 0))
    rcases List.mem_cons.1 hx with rfl | hx
    · rw [upd_same, upd_same, upd_same]
      exact heap_alloc_new w _
    · have e : x ≠ w.heap.size := fun e => hn x hx e.symm
      rw [upd_other _ _ e, upd_other _ _ e, upd_other _ _ e]
      exact h'.i.at_ x hx
  · rcases List.mem_cons.1 hx with rfl | hx
    · exact not_new h.low (Nat.le_refl _)
    · exact h.i.ok x hx
/-- A new transaction. -/
theorem Rel.newX (h : Rel N D T w S) {x : Nat} (hx : x ∉ S.hs) (h64 : x ≠ 64) (hk : x ∉ S.ks) (hal : S.al ≠ some x) (hwr : ∀ i ∈ S.its, S.wr i ≠ some x) (hql : ∀ y, y ∈ S.hs ∨ y = 64 → x ∉ S.ql y) :
    Rel N D T (w.alloc (.cells #[.int .i64 x, .int .u64 ((x : Int) + 1), .slice none 0 0, .map none, .pointer none, .slice none 0 0] 66 (0, 0)))
      { S with hs := S.hs ++ [x], tb := upd S.tb x w.heap.size, W := upd S.W x (.slice none 0 0), Q := upd S.Q x (.slice none 0 0), M := upd S.M x none, wt := upd S.wt x none, wl := upd S.wl x [], ql := upd S.ql x [] } := by
  have h' := h.alloc (.cells #[.int .i64 x, .int .u64 ((x : Int) + 1), .slice none 0 0, .map none, .pointer none, .slice none 0 0] 66 (0, 0))
  have hn := (h.notNew (Nat.le_refl _)).2.1
  have mem : ∀ y, y ∈ S.hs ++ [x] → y = x ∨ (y ≠ x ∧ y ∈ S.hs) := fun y hy => by
    by_cases e : y = x
    · exact .inl e
    · exact .inr ⟨e, by simpa [e] using hy⟩
  have mem' : ∀ y, y ∈ S.hs ++ [x] ∨ y = 64 → y = x ∨ (y ≠ x ∧ (y ∈ S.hs ∨ y = 64)) := fun y hy => by
    rcases hy with hy | hy
    · rcases mem y hy with e | ⟨e, e'⟩
      · exact .inl e
      · exact .inr ⟨e, .inl e'⟩
    · exact .inr ⟨fun e => h64 (e.symm.trans hy), .inr hy⟩
  have tbo : ∀ y, y ≠ x → upd S.tb x w.heap.size y = S.tb y := fun y e => upd_other _ _ e
  refine ⟨h'.low, h'.lowN, ⟨?_, h'.t.ok⟩, ⟨fun y hy => ?_, fun y hy => ?_, fun y hy z hz e => ?_⟩, ⟨fun y hy r i b e => ?_, fun y hy r i b e => ?_⟩, ⟨fun i hi => ?_, h'.i.ok⟩, ⟨fun y hy => ?_, fun y hy k hk => ?_, fun y z k hy hz e1 e2 => ?_⟩, ⟨fun y hy => ?_, fun y hy k hk => ?_, fun y hy z hz k e1 e2 => ?_⟩, h'.g, ⟨h'.m.fim, h'.m.imok, h'.m.tm0, fun b hb => ?_, h'.m.tmok, h'.m.ne⟩⟩
  · show _ = some (Obj.cells #[.bool S.th, .map S.im, .map S.tm, .int .u64 S.last, upd S.Q x (.slice none 0 0) 64, S.G, .int .i64 0, po (S.al.map (upd S.tb x w.heap.size))] 55 (0, 0))
    rw [upd_other _ _ (fun e => h64 e.symm)]
    have e : S.al.map (upd S.tb x w.heap.size) = S.al.map S.tb := by
      cases ha : S.al with
      | none => rfl
      | some a => simp only [Option.map_some]; rw [tbo a (fun e => hal (e ▸ ha))]
    rw [e]
    exact h'.t.at_
  · show _ = some (Obj.cells #[.int .i64 y, .int .u64 ((y : Int) + 1), upd S.W x (.slice none 0 0) y, .map (upd S.M x none y), po ((upd S.wt x none y).map (·.1)), upd S.Q x (.slice none 0 0) y] 66 (0, 0))
    rcases mem y hy with rfl | ⟨e, e'⟩
    · simp only [upd_same]
      exact heap_alloc_new w _
    · rw [upd_other _ _ e, upd_other _ _ e, upd_other _ _ e, upd_other _ _ e]
      show (w.alloc _).heap[upd S.tb x w.heap.size y]? = _
      rw [tbo y e]
      exact h'.x.at_ y e'
  · show ¬ Pd N D (upd S.tb x w.heap.size y)
    rcases mem y hy with rfl | ⟨e, e'⟩
    · rw [upd_same]
      exact not_new h.low (Nat.le_refl _)
    · rw [tbo y e]
      exact h.x.ok y e'
  · have e0 : upd S.tb x w.heap.size y = upd S.tb x w.heap.size z := e
    rcases mem y hy with rfl | ⟨e1, e1'⟩ <;> rcases mem z hz with rfl | ⟨e2, e2'⟩
    · rfl
    · rw [upd_same, tbo z e2] at e0
      exact (hn z e2' e0).elim
    · rw [upd_same, tbo y e1] at e0
      exact (hn y e1' e0.symm).elim
    · rw [tbo y e1, tbo z e2] at e0
      exact h.x.inj y e1' z e2' e0
  · have e0 : upd S.wt x none y = some (r, i, b) := e
    rcases mem y hy with rfl | ⟨e1, e1'⟩
    · rw [upd_same] at e0
      cases e0
    · rw [upd_other _ _ e1] at e0
      exact h'.r.at_ y e1' r i b e0
  · have e0 : upd S.wt x none y = some (r, i, b) := e
    rcases mem y hy with rfl | ⟨e1, e1'⟩
    · rw [upd_same] at e0
      cases e0
    · rw [upd_other _ _ e1] at e0
      exact h'.r.ok y e1' r i b e0
  · show _ = some (Obj.cells #[.int .u64 (S.rd i), .int .u64 (S.wn i), po ((S.wr i).map (upd S.tb x w.heap.size))] 126 (0, 0))
    have e : (S.wr i).map (upd S.tb x w.heap.size) = (S.wr i).map S.tb := by
      cases ha : S.wr i with
      | none => rfl
      | some a => simp only [Option.map_some]; rw [tbo a (fun e => hwr i hi (e ▸ ha))]
    rw [e]
    exact h'.i.at_ i hi
  · show (w.alloc _).ownsRow N 53 1 (upd S.Q x (.slice none 0 0) y) (upd S.ql x [] y).length ((upd S.ql x [] y).map fun z => Pp (upd S.tb x w.heap.size z))
    rcases mem' y hy with rfl | ⟨e, e'⟩
    · rw [upd_same, upd_same]
      exact ⟨rfl, .inl ⟨rfl, rfl⟩⟩
    · rw [upd_other _ _ e, upd_other _ _ e]
      have em : ((S.ql y).map fun z => Pp (upd S.tb x w.heap.size z)) = (S.ql y).map fun z => Pp (S.tb z) := by
        refine List.map_congr_left (fun z hz => ?_)
        rw [tbo z (fun e2 => hql y e' (e2 ▸ hz))]
      rw [em]
      exact h'.q.own y e'
  · have e0 : (upd S.Q x (.slice none 0 0) y).ownBlock = some k := hk
    rcases mem' y hy with rfl | ⟨e, e'⟩
    · rw [upd_same] at e0
      cases e0
    · rw [upd_other _ _ e] at e0
      exact h.q.ok y e' k e0
  · have f1 : (upd S.Q x (.slice none 0 0) y).ownBlock = some k := e1
    have f2 : (upd S.Q x (.slice none 0 0) z).ownBlock = some k := e2
    rcases mem' y hy with rfl | ⟨g1, g1'⟩
    · rw [upd_same] at f1
      cases f1
    · rcases mem' z hz with rfl | ⟨g2, g2'⟩
      · rw [upd_same] at f2
        cases f2
      · rw [upd_other _ _ g1] at f1
        rw [upd_other _ _ g2] at f2
        exact h.q.inj y z k g1' g2' f1 f2
  · show (w.alloc _).ownsRow N 124 2 (upd S.W x (.slice none 0 0) y) (upd S.wl x [] y).length ((upd S.wl x [] y).flatMap undoC)
    rcases mem y hy with rfl | ⟨e, e'⟩
    · rw [upd_same, upd_same]
      exact ⟨rfl, .inl ⟨rfl, rfl⟩⟩
    · rw [upd_other _ _ e, upd_other _ _ e]
      exact h'.v.own y e'
  · have e0 : (upd S.W x (.slice none 0 0) y).ownBlock = some k := hk
    rcases mem y hy with rfl | ⟨e, e'⟩
    · rw [upd_same] at e0
      cases e0
    · rw [upd_other _ _ e] at e0
      exact h.v.ok y e' k e0
  · have f1 : (upd S.W x (.slice none 0 0) y).ownBlock = some k := e1
    have f2 : (upd S.W x (.slice none 0 0) z).ownBlock = some k := e2
    rcases mem y hy with rfl | ⟨g1, g1'⟩
    · rw [upd_same] at f1
      cases f1
    · rcases mem z hz with rfl | ⟨g2, g2'⟩
      · rw [upd_same] at f2
        cases f2
      · rw [upd_other _ _ g1] at f1
        rw [upd_other _ _ g2] at f2
        exact h.v.inj y g1' z g2' k f1 f2
  · obtain ⟨n, Dm, a1, a2, a3, a4⟩ := h'.m.ftm b hb
    exact ⟨n, Dm, a1, a2, fun y hy zd => by rw [a3 y hy zd]; show _ = DataW.lit (Lit.int IntKind.i64 (upd S.tb x w.heap.size y : Nat)); rw [tbo y (fun e => hk (e ▸ hy))], a4⟩
end

end Go.Proofs.Ybulkaggi.CE

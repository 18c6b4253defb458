import Derived.Test.YbulkaggiBl
namespace Go.Proofs.Ybulkaggi.BM
open Go.RowKit Go.Proofs.Ybulkaggi Go.Sort Go.Shelf Go.Lib
open Go.Proofs.Ybulkaggi.CE (hlt tag_ne own_tag own_keep size_set grown_alloc grown_drewN grown_cell grown_none grown_setCells)
set_option linter.unusedVariables false
set_option maxRecDepth 100000

theorem zero_one (m : Nat) : ∀ v ∈ (Builtin.zeroCells #[.pointer none, .slice none 0 0] m).toList, v.oneCell' = true := fun u hu => by
  simp [Builtin.zeroCells] at hu
  obtain ⟨i, _, rfl⟩ := hu
  rcases Nat.mod_two_eq_zero_or_one i with h | h
  · rw [h]; rfl
  · rw [h]; rfl
theorem clear90 (w : World) (ty : TypeId) (b o m c : Nat) (hm : 0 < m) (hc : ∀ j, j < m * 2 → (w.cell? ⟨b, o + j, none⟩).isSome = true) (hf : ∀ j, w.frozen? ⟨b, o + j, none⟩ = false) :
    (Builtin.clear_ #[90] ty #[.slice (some ⟨b, o, none⟩) m c]).run Yba.prog w = .ok (.tuple #[]) (w.setCells b o (Builtin.zeroCells #[.pointer none, .slice none 0 0] m).toList) := by
  obtain ⟨m, rfl⟩ : ∃ k, m = k + 1 := ⟨m - 1, by omega⟩
  have hv : ∀ w, (zeroValue 94).run Yba.prog w = .ok (.agg #[.pointer none, .slice none 0 0]) w := fun w => by kernel_rfl
  have hl : (Builtin.zeroCells #[.pointer none, .slice none 0 0] (m + 1)).toList.length = (m + 1) * 2 := by simp [Builtin.zeroCells]
  have hst := run_storeCells_cells (P := Yba.prog) b o (Builtin.zeroCells #[.pointer none, .slice none 0 0] (m + 1)).toList 0 w (fun j hj => by rw [hl] at hj; simpa using hc j hj) (fun j hj => by simp [hf]) (zero_one (m + 1))
  simp only [Nat.add_zero] at hst
  have hz : Value.cells (.agg #[.pointer none, .slice none 0 0]) = #[.pointer none, .slice none 0 0] := by kernel_rfl
  simp [Builtin.clear_, run_underlying Yba.underlying90, hv, hz, hst]
theorem box_run {wr w' : World} {x y : Value} {g : Nat} (hg : (wr.alloc (.cells #[x, y] 94)).grownBy w' none) (hlg : g < wr.heap.size) :
    w'.cell? ⟨wr.heap.size, 0, none⟩ = some x ∧ w'.cell? ⟨wr.heap.size, 1, none⟩ = some y ∧ (∀ k, w'.cell? ⟨g, k, none⟩ = wr.cell? ⟨g, k, none⟩) ∧ (∀ k, w'.frozen? ⟨g, k, none⟩ = wr.frozen? ⟨g, k, none⟩) := by
  have h0 : w'.heap[wr.heap.size]? = some (.cells #[x, y] 94 (0, 0)) := (hg.block _ (by simp) (by simp)).trans (heap_alloc_new wr _)
  have hb : w'.heap[g]? = wr.heap[g]? := (hg.block g (by simp; omega) (by simp)).trans (Below.heap_alloc wr _ g hlg)
  exact ⟨(cell_at h0 0).trans rfl, (cell_at h0 1).trans rfl, fun k => World.cell?_of_block hb, fun k => World.frozen?_of_block hb⟩

/-! ### What DeleteFunc has done -/
structure DI (del : RunV → Bool) (M : List RunV) (i j : Nat) (M' : List RunV) : Prop where
  len : M'.length = M.length
  ij : i < j
  jn : j ≤ M.length
  pre : M'.take i = (M.take j).filter (fun x => !del x)
  ilen : i = ((M.take j).filter (fun x => !del x)).length
  suf : ∀ k, j ≤ k → M'[k]? = M[k]?
theorem DI.start {del : RunV → Bool} {M : List RunV} {i : Nat} (h : i < M.length) (h1 : del M[i] = true) (h2 : ∀ k (hk : k < M.length), k < i → del M[k] = false) : DI del M i (i + 1) M := by
  have e : (M.take (i + 1)).filter (fun x => !del x) = M.take i := by
    rw [List.take_succ_eq_append_getElem h, List.filter_append]
    have e1 : (M.take i).filter (fun x => !del x) = M.take i := List.filter_eq_self.2 (fun x hx => by
      obtain ⟨t, ht, rfl⟩ := List.mem_iff_getElem.1 hx
      have ht' : t < i := by simp at ht; omega
      simp [h2 t (by omega) ht'])
    rw [e1]
    simp [h1]
  exact ⟨rfl, by omega, h, e.symm, by rw [e]; simp; omega, fun _ _ => rfl⟩
theorem DI.drop {del : RunV → Bool} {M M' : List RunV} {i j : Nat} (h : DI del M i j M') (hj : j < M.length) (hd : del M[j] = true) : DI del M i (j + 1) M' := by
  have e : (M.take (j + 1)).filter (fun x => !del x) = (M.take j).filter (fun x => !del x) := by
    rw [List.take_succ_eq_append_getElem hj, List.filter_append]
    simp [hd]
  exact ⟨h.len, by have := h.ij; omega, hj, by rw [e]; exact h.pre, by rw [e]; exact h.ilen, fun k hk => h.suf k (by omega)⟩
theorem DI.take {del : RunV → Bool} {M M' : List RunV} {i j : Nat} (h : DI del M i j M') (hj : j < M.length) (hd : del M[j] = false) : DI del M (i + 1) (j + 1) (M'.set i M[j]) := by
  have hij := h.ij
  have hl := h.len
  have e : (M.take (j + 1)).filter (fun x => !del x) = (M.take j).filter (fun x => !del x) ++ [M[j]] := by
    rw [List.take_succ_eq_append_getElem hj, List.filter_append]
    simp [hd]
  refine ⟨by simp [h.len], by omega, hj, ?_, by rw [e, List.length_append, ← h.ilen]; rfl, fun k hk => ?_⟩
  · rw [e, ← h.pre, List.take_succ_eq_append_getElem (by simp; omega)]
    simp
    rw [List.take_set, List.set_eq_of_length_le (by simp; omega)]
  · rw [List.getElem?_set_ne (by omega)]
    exact h.suf k (by omega)
theorem DI.done {del : RunV → Bool} {M M' : List RunV} {i : Nat} (h : DI del M i M.length M') : M'.take i = M.filter (fun x => !del x) := by
  have := h.pre
  rwa [List.take_length] at this

def DrPost (N g c : Nat) (M : List RunV) (del : RunV → Bool) (w : World) (e : Ending) (w' : World) : Prop := ∃ m, m = (M.filter (fun x => !del x)).length ∧ e = .returned (.slice (some ⟨g, 0, none⟩) m c) ∧ RR N w' g c (M.filter (fun x => !del x)) ∧ w.grownBy w' (some g)
theorem del_run {N : Nat} (g c bx n : Nat) (M : List RunV) (del : RunV → Bool) (w : World) (h : RR N w g c M) (hn : M.length = n) (h256 : n ≤ 256) (hc : CloAt w g bx del M) :
    Calls Yba.prog 60 #[.slice (some ⟨g, 0, none⟩) n c, .func (.func 61) #[] #[Pp bx]] w (DrPost N g c M del w) := by
  have H := hide h
  have HC := hide hc
  have HN := hide hn
  have C := hide (index_run g c bx n M del w h hn h256 hc)
  have hc1 := h.lt.2.2.1
  have hc2 := h.lt.2.2.2
  rw [hn] at hc1
  clear h hc hn
  go_enter Yba.func60, Yba.ntmps60
  go_upto_region 2 with fail
  refine C.out.mono ?_
  rintro e w' ⟨r, rfl, hr, hg0⟩
  rcases hr with ⟨rfl, hall⟩ | ⟨i0, rfl, hi0, hd0, hb0⟩
  · have HP : Hid (DrPost N g c M del w (.returned (.slice (some ⟨g, 0, none⟩) n c)) w') := by
      have e : M.filter (fun x => !del x) = M := List.filter_eq_self.2 (fun x hx => by simp [hall x hx])
      exact ⟨n, by rw [e]; exact HN.out.symm, rfl, by rw [e]; exact H.out.grown hg0, hg0.but _⟩
    clear hg0 hall
    go_wp2
    go_ret
    exact HP.out
  · have HG0 := hide hg0
    have D0 := hide (DI.start hi0 hd0 hb0)
    clear hg0 C hd0 hb0
    have hne : ((i0 : Int) == -1) = false := by simp
    have hi0' : i0 < n := by have := HN.out; omega
    go_wp2
    go_loopw [5, 6] (fun p q wr => ∃ (i j : Nat) (M' : List RunV), p = .int .i64 (i : Int) ∧ q = .int .i64 (j : Int) ∧ DI del M i j M' ∧ RR N wr g c M' ∧ w.grownBy wr (some g)) (fun p q _ => n - (intOf q).toNat)
    case atStart => exact ⟨i0, i0 + 1, M, rfl, by simp, D0.out, H.out.grown HG0.out, HG0.out.but _⟩
    case round =>
      obtain ⟨i, j, M', rfl, rfl, hdi, hu, hg⟩ := hrel
      have hij := hdi.ij
      have hjn := hdi.jn
      have hln := hdi.len
      rw [HN.out] at hjn hln
      have HU := hide hu
      have HG := hide hg
      have HD := hide hdi
      have hfr := fun k => hu.frozenAt k
      have hlg := hu.lt.1
      by_cases hkn : j < n
      · have hkn' : (j : Int) < (n : Int) := by omega
        have hjM : j < M.length := by rw [HN.out]; exact hkn
        have hjM' : j < M'.length := by omega
        have ej : M'[j] = M[j] := by
          have := hdi.suf j (Nat.le_refl _)
          rw [List.getElem?_eq_getElem hjM', List.getElem?_eq_getElem hjM] at this
          exact Option.some.inj this
        obtain ⟨d1, d2⟩ := hu.at_ hjM'
        obtain ⟨d3, d4⟩ := hu.at_ (show i < M'.length by omega)
        rw [ej] at d1 d2
        obtain ⟨b, hb⟩ : ∃ b, del M[j] = b := ⟨_, rfl⟩
        have K : Hid (∀ w'', w'' = wr.alloc (.cells #[Pp M[j].tb, .slice (some ⟨M[j].g, M[j].o, none⟩) M[j].A.length M[j].c] 94) → Calls Yba.prog 61 #[.agg #[Pp M[j].tb, .slice (some ⟨M[j].g, M[j].o, none⟩) M[j].A.length M[j].c], Pp bx] w'' (CPost w'' b)) := fun w'' e => by
          subst e
          have := HC.out M[j] (List.getElem_mem hjM) _ (grown_none HG.out (grown_alloc wr (.cells #[Pp M[j].tb, .slice (some ⟨M[j].g, M[j].o, none⟩) M[j].A.length M[j].c] 94)))
          rw [hb] at this
          exact this
        have FT' : Hid (b = false → ∀ w', wr.grownBy w' none → DI del M (i + 1) (j + 1) (M'.set i M[j]) ∧ RR N (w'.setCells g (i * 2) [Pp M[j].tb, .slice (some ⟨M[j].g, M[j].o, none⟩) M[j].A.length M[j].c]) g c (M'.set i M[j]) ∧ w.grownBy (w'.setCells g (i * 2) [Pp M[j].tb, .slice (some ⟨M[j].g, M[j].o, none⟩) M[j].A.length M[j].c]) (some g)) := fun e w' hg => ⟨HD.out.take hjM (hb.trans e), (HU.out.grown hg).set (by omega) M[j], grown_setCells _ (i * 2) (grown_none HG.out hg)⟩
        have FF' : Hid (b = true → ∀ w', wr.grownBy w' none → DI del M i (j + 1) M' ∧ RR N w' g c M' ∧ w.grownBy w' (some g)) := fun e w' hg => ⟨HD.out.drop hjM (hb.trans e), HU.out.grown hg, grown_none HG.out hg⟩
        obtain ⟨MM, hMM⟩ : ∃ z, z = M'.set i M[j] := ⟨_, rfl⟩
        rw [← hMM] at FT'
        clear hu hg hdi HU HG HD hb ej hMM
        generalize M[j].tb = B at *
        generalize M[j].g = sg at *
        generalize M[j].o = so at *
        generalize M[j].A.length = sl at *
        generalize M[j].c = sc at *
        generalize M'[i].tb = B' at *
        generalize Value.slice (some ⟨M'[i].g, M'[i].o, none⟩) M'[i].A.length M'[i].c = sv' at *
        have HB : Hid (∀ w', (wr.alloc (.cells #[Pp B, .slice (some ⟨sg, so, none⟩) sl sc] 94)).grownBy w' none → w'.cell? ⟨wr.heap.size, 0, none⟩ = some (Pp B) ∧ w'.cell? ⟨wr.heap.size, 1, none⟩ = some (.slice (some ⟨sg, so, none⟩) sl sc) ∧ w'.cell? ⟨g, i * 2, none⟩ = some (Pp B') ∧ w'.cell? ⟨g, i * 2 + 1, none⟩ = some sv' ∧ w'.frozen? ⟨g, i * 2, none⟩ = false ∧ w'.frozen? ⟨g, i * 2 + 1, none⟩ = false ∧ wr.grownBy w' none) := fun w' hg => by
          obtain ⟨h1, h2, h3, h4⟩ := box_run hg hlg
          exact ⟨h1, h2, (h3 _).trans d3, (h3 _).trans d4, (h4 _).trans (hfr _), (h4 _).trans (hfr _), grown_none (grown_alloc _ _) hg⟩
        cases b with
        | true =>
          have FX := hide (FF'.out rfl)
          clear FF' FT'
          go_wp2_with (go_at_call 61; refine (K.out _ rfl).mono ?_; rintro e w' ⟨rfl, hg2⟩; obtain ⟨x1, x2, x3, x4, x5, x6, x7⟩ := HB.out w' hg2; have HG2 := hide x7; clear hg2 x7)
          exact ⟨⟨i, j + 1, M', rfl, by go_num, FX.out _ HG2.out⟩, by simp [intOf]; omega⟩
        | false =>
          have FX := hide (FT'.out rfl)
          clear FF' FT'
          go_wp2_with (go_at_call 61; refine (K.out _ rfl).mono ?_; rintro e w' ⟨rfl, hg2⟩; obtain ⟨x1, x2, x3, x4, x5, x6, x7⟩ := HB.out w' hg2; have HG2 := hide x7; clear hg2 x7)
          exact ⟨⟨i + 1, j + 1, MM, by go_num, by go_num, FX.out _ HG2.out⟩, by simp [intOf]; omega⟩
      · have hkn' : ¬ (j : Int) < (n : Int) := by omega
        obtain rfl : j = n := by omega
        have hcl := fun ty => clear90 wr ty g (i * 2) (j - i) (c - i) (by omega) (fun t ht => by
          rw [hu.cellAt _ (by omega), List.getElem?_eq_getElem (by rw [flat_len]; omega)]
          rfl) (fun t => hfr _)
        have hdn : M'.take i = M.filter (fun x => !del x) := DI.done (by rw [HN.out]; exact hdi)
        have HP : Hid (DrPost N g c M del w (.returned (.slice (some ⟨g, 0, none⟩) i c)) (wr.setCells g (i * 2) (Builtin.zeroCells #[.pointer none, .slice none 0 0] (j - i)).toList)) := ⟨i, by rw [← hdn]; simp; omega, rfl, by rw [← hdn]; exact hu.front (by omega) _, grown_setCells _ _ hg⟩
        clear hu hg hdi hdn HD HU HG
        have hic : ¬ c = i := by omega
        go_wp2
        go_ret
        exact HP.out
end Go.Proofs.Ybulkaggi.BM

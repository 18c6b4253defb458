import Derived.Test.YbulkaggiC3
namespace Go.Proofs.Ybulkaggi.CE
open Go.RowKit Go.WideMaps Go.Maps
set_option linter.unusedVariables false
set_option maxRecDepth 100000

theorem hide {p : Prop} (h : p) : Hid p := h
theorem cell_at {w : World} {b : Nat} {cs : Array Value} {t : TypeId} (h : w.heap[b]? = some (.cells cs t (0, 0))) (i : Nat) : w.cell? ⟨b, i, none⟩ = cs[i]? := by simp [World.cell?, h]
theorem free_at {w : World} {b : Nat} {cs : Array Value} {t : TypeId} (h : w.heap[b]? = some (.cells cs t (0, 0))) (i : Nat) : w.frozen? ⟨b, i, none⟩ = false := by simp [World.frozen?, h]
theorem info_at {P : Program} {t : TypeId} {z : Value} {s b : Nat} (h : (P.info? t).map (fun i => (i.zero, i.size, i.bytes)) = some (some z, s, b)) : ∃ i, P.info? t = some i ∧ i.zero = some z ∧ i.size = s ∧ i.bytes = b := by
  obtain ⟨i, h1, h2⟩ := Option.map_eq_some_iff.1 h
  simp only [Prod.mk.injEq] at h2
  exact ⟨i, h1, h2.1, h2.2.1, h2.2.2⟩
theorem info53 : (Yba.prog.info? 53).map (fun i => (i.zero, i.size, i.bytes)) = some (some (.pointer none), 1, 8) := by kernel_rfl
theorem info66 : (Yba.prog.info? 66).map (fun i => (i.zero, i.size, i.bytes)) = some (some (.agg #[.int .i64 0, .int .u64 0, .slice none 0 0, .map none, .pointer none, .slice none 0 0]), 6, 80) := by kernel_rfl
theorem info124 : (Yba.prog.info? 124).map (fun i => (i.zero, i.size, i.bytes)) = some (some (.agg #[.pointer none, .int .u64 0]), 2, 16) := by kernel_rfl
theorem info150 : (Yba.prog.info? 150).map (fun i => (i.zero, i.size, i.bytes)) = some (some (.agg #[.int .u64 0, .int .u64 0]), 2, 16) := by kernel_rfl

theorem eq_ptr_same (w : World) (a : Nat) : (binOp .eql 53 (Pp a) (Pp a)).run Yba.prog w = .ok (.bool true) w := by
  obtain ⟨j, hj, _⟩ := info_at info66
  have h : ∀ d : Nat, (Op.equalIn (d + 1) 53 (Pp a) (Pp a)).run Yba.prog w = .ok true w := fun d => by
    simp [Op.equalIn, run_underlying Yba.underlying53, sizeOf, typeInfo, hj, run_sameAddr_same]
  simp only [binOp]
  simp [Op.equal, Op.maxDepth, h 9999]
theorem ne_ptr_same (w : World) (a : Nat) : (binOp .neq 53 (Pp a) (Pp a)).run Yba.prog w = .ok (.bool false) w := by
  obtain ⟨j, hj, _⟩ := info_at info66
  have h : ∀ d : Nat, (Op.equalIn (d + 1) 53 (Pp a) (Pp a)).run Yba.prog w = .ok true w := fun d => by
    simp [Op.equalIn, run_underlying Yba.underlying53, sizeOf, typeInfo, hj, run_sameAddr_same]
  simp only [binOp]
  simp [Op.equal, Op.maxDepth, h 9999]
theorem eqIn_diff (w : World) (a b : Nat) {ca cb : Array Value} {ta tb : TypeId} (h : a ≠ b) (ha : w.heap[a]? = some (.cells ca ta (0, 0))) (hb : w.heap[b]? = some (.cells cb tb (0, 0))) (d : Nat) : (Op.equalIn (d + 1) 53 (Pp a) (Pp b)).run Yba.prog w = .ok false w := by
  obtain ⟨j, hj, _, hsz, _⟩ := info_at info66
  have h0 := run_sameAddr_other (P := Yba.prog) (w := w) (a := ⟨a, 0, none⟩) (b := ⟨b, 0, none⟩) (fun e => h (congrArg Addr.block e)) ha hb
  simp [Op.equalIn, run_underlying Yba.underlying53, sizeOf, typeInfo, hj, hsz, h0]
theorem eq_ptr_diff (w : World) (a b : Nat) {ca cb : Array Value} {ta tb : TypeId} (h : a ≠ b) (ha : w.heap[a]? = some (.cells ca ta (0, 0))) (hb : w.heap[b]? = some (.cells cb tb (0, 0))) : (binOp .eql 53 (Pp a) (Pp b)).run Yba.prog w = .ok (.bool false) w := by
  simp only [binOp]
  simp [Op.equal, Op.maxDepth, eqIn_diff w a b h ha hb 9999]
theorem ne_ptr_diff (w : World) (a b : Nat) {ca cb : Array Value} {ta tb : TypeId} (h : a ≠ b) (ha : w.heap[a]? = some (.cells ca ta (0, 0))) (hb : w.heap[b]? = some (.cells cb tb (0, 0))) : (binOp .neq 53 (Pp a) (Pp b)).run Yba.prog w = .ok (.bool true) w := by
  simp only [binOp]
  simp [Op.equal, Op.maxDepth, eqIn_diff w a b h ha hb 9999]

theorem step_append {ops : Array Oper} {o : Oper} {a : Act} {w : World} {K : Act → World → Prop} {Q : Exit → Act → World → Prop} {E : Prop}
    (hg : o.guard = none) (s x : Operand) (t : TypeId) (hop : o.op = Op.call { callee := Callee.builtin Builtin.append, args := #[s, x], argTypes := #[t, t] })
    (e : TypeId) (z : Value) (size bytes : Nat) (ht : Yba.prog.underlying t = some (.slice e)) (hi : (Yba.prog.info? e).map (fun i => (i.zero, i.size, i.bytes)) = some (some z, size, bytes)) (hzs : z.cells.size = size) (hsz : 0 < size) (hby : bytes ≤ 100)
    {base n blk : Nat} {v : Value} {xs : List Value} (hs : a.eval s = v) (hx : a.eval x = .slice (some ⟨blk, 0, none⟩) 1 1) (news : List Value) (hl : news.length = size) (hb : ∀ j u, news[j]? = some u → w.cell? ⟨blk, j, none⟩ = some u) (h1 : ∀ u ∈ news, u.oneCell' = true)
    (h : w.ownsRow base e size v n xs) (hn : n ≤ 200000) (hbase : base ≤ w.heap.size)
    (hK : ∀ v' w3, w3.ownsRow base e size v' (n + 1) (xs ++ news) → w.grownBy w3 v.ownBlock → (v'.ownBlock = v.ownBlock ∨ v'.ownBlock = some w.heap.size) → K (a.put o.dst v') w3) :
    if Region.wanted o (yielded ops a.tmps) = true then Oper.wp Yba.prog o a w K Q else E := by
  have hw : Region.wanted o (yielded ops a.tmps) = true := by simp [Region.wanted, hg]
  rw [if_pos hw]
  obtain ⟨i0, hi0, hz0, hz1, hz2⟩ := info_at hi
  obtain ⟨v', w', hr, g1, g2, _, g5⟩ := run_append_own_at (P := Yba.prog) w base t o.type e i0 z size bytes ht hi0 hz0 hz1 hz2 hzs hsz v n xs h ⟨blk, 0, none⟩ 1 1 news (by omega) (fun j u hj => by
    have e : (⟨blk, 0, none⟩ : Addr).add j = ⟨blk, j, none⟩ := by unfold Addr.add; split <;> simp_all
    rw [e]
    exact hb j u hj) h1 (by unfold maxLen; omega) (Nat.le_trans (Nat.mul_le_mul (show n + 1 ≤ 200001 by omega) hby) (by decide)) hbase
  unfold Oper.wp execOp
  simp only [hop, resolve, invoke, builtin, Sem.run_bind, Sem.run_pure, Result.andThen_ok, List.map_toArray, List.map_cons, List.map_nil, hs, hx, hr]
  exact hK v' w' g1 g2 g5
theorem grown_of_drew {w w' : World} {row : Option Nat} (h : w.drew.grownBy w' row) : w.grownBy w' row := ⟨h.os, h.tape, h.output, h.size, h.block⟩
theorem sl_shape {w : World} {base : Nat} {e : TypeId} {size : Nat} {v : Value} {n : Nat} {xs : List Value} (h : w.ownsRow base e size v n xs) : ∃ a c, v = .slice a n c := by
  rcases h.2 with ⟨rfl, h0⟩ | ⟨g, cap, cur, rfl, _⟩
  · exact ⟨_, _, by rw [h0]⟩
  · exact ⟨_, _, rfl⟩

/-! ### zzs1607cok -/
theorem cok_any (s : Nat) (hs : 1 ≤ s ∧ s ≤ 4) (w : World) : Calls Yba.prog 20 #[.int .u8 (s : Int)] w fun e w' => e = .returned (.bool true) ∧ w' = w := by
  have h1 : (1 : Int) ≤ s := by omega
  have h2 : (s : Int) ≤ 4 := by omega
  go_enter Yba.func20, Yba.ntmps20
  go_wp2
  go_ret
  exact ⟨rfl, rfl⟩

/-! ### running -/
theorem running_any {N : Nat} {D : List Nat} {T : Nat} {w : World} {S : St} (h : Rel N D T w S) {x : Nat} (hx : x ∈ S.hs) (hk : x ∈ S.ks) (hw : S.wt x = none) (h64 : x < 64) (s : ByteArray) :
    Calls Yba.prog 40 #[Pp T, .int .i64 (x : Int), .string s] w fun e w' => e = .returned (Pp (S.tb x)) ∧ w' = w := by
  obtain ⟨b, hb⟩ : ∃ b, S.tm = some b := by
    cases e : S.tm with
    | none => rw [h.m.tm0 e] at hk; simp at hk
    | some b => exact ⟨b, rfl⟩
  have c1 : w.cell? ⟨T, 2, none⟩ = some (.map (some b)) := by rw [cell_at h.t.at_, hb]; rfl
  have c2 : w.cell? ⟨S.tb x, 4, none⟩ = some (.pointer none) := by rw [cell_at (h.x.at_ x hx), hw]; rfl
  have r1 := (h.m.ftm b hb).look (by omega : x < 2 ^ 62) hk
  clear h hx hk hw hb
  generalize S.tb x = B at *
  go_enter Yba.func40, Yba.ntmps40
  go_wp2
  go_ret
  exact ⟨rfl, rfl⟩

end Go.Proofs.Ybulkaggi.CE

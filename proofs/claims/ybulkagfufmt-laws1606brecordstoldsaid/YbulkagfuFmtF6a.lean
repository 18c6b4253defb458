import Derived.Test.YbulkagfuFmtF5
import Derived.Deep.RegionLaw
namespace Go.Proofs.YbulkagfuFmt
open Go.RowKit Go.WideMaps Go.Maps Go.Extern.Stop Go.Stop Go.Extern Go.MuLone
set_option linter.unusedVariables false
set_option maxRecDepth 100000

theorem cell_at {w : World} {b : Nat} {cs : Array Value} {t : TypeId} (h : w.heap[b]? = some (.cells cs t (0, 0))) (i : Nat) : w.cell? ⟨b, i, none⟩ = cs[i]? := by simp [World.cell?, h]
theorem free_at {w : World} {b : Nat} {cs : Array Value} {t : TypeId} (h : w.heap[b]? = some (.cells cs t (0, 0))) (i : Nat) : w.frozen? ⟨b, i, none⟩ = false := by simp [World.frozen?, h]
/-- The block of Snapshots: the lock's word s, self, the two maps. -/
abbrev snapC (s : Int) (sf : ByteArray) (im rm : Option Nat) : Array Value := #[.int .i32 s, .int .u32 0, .string sf, .map im, .slice none 0 0, .nilFunc, .int .u64 0, .map rm, .map none]

theorem map_ne {w : World} {b k : Nat} {cs : Array Value} {t : TypeId} {H : Type} {kt : TypeId} {P : Program} {Rd : Value → Option (DataW H × List MemPlace)} {n : Nat} {D : DataW H} (h : w.heap[b]? = some (.cells cs t (0, 0))) (hm : w.ownsMap P kt Rd k n D) : k ≠ b := by
  obtain ⟨es, clock, h1, _⟩ := hm
  intro e
  subst e
  rw [h] at h1
  simp at h1

theorem Recs.but {w w' : World} {base kk n x : Nat} {R M K : Nat → Nat} {mk : Nat → Nat → Bool} {wt : Nat → Int} {T : Nat → Nat → List Int} {B : Nat → Nat → Option Nat} (h : Recs w base kk n R M K mk wt T B) (hb : ∀ k, k < w.heap.size → k ≠ x → w'.heap[k]? = w.heap[k]?)
    (hx : ∀ cs t, w.heap[x]? = some (.cells cs t (0, 0)) → t ≠ 44 ∧ t ≠ 46 ∧ t ≠ 4 ∧ t ≠ 3) : Recs w' base kk n R M K mk wt T B := by
  have hlt : ∀ {k : Nat} {x : Obj}, w.heap[k]? = some x → k < w.heap.size := fun h => (Array.getElem?_eq_some_iff.1 h).1
  refine ⟨fun i hi => ?_, h.inj, h.apart⟩
  have hr := h.each i hi
  obtain ⟨ks, h1, h2⟩ := hr.mrk
  obtain ⟨cs, h3, h4⟩ := hr.msg
  refine hr.keep (hb _ (hlt hr.self) ?_) (hb _ (hlt h1) ?_) (hb _ (hlt h3) ?_) (fun j hj k hk => ?_)
  · intro e; rw [← e] at hx; exact (hx _ _ hr.self).1 rfl
  · intro e; rw [← e] at hx; exact (hx _ _ h1).2.2.1 rfl
  · intro e; rw [← e] at hx; exact (hx _ _ h3).2.1 rfl
  · obtain ⟨ys, hy⟩ := hr.tag hj hk
    refine hb k (hlt hy) ?_
    intro e; rw [← e] at hx; exact (hx _ _ hy).2.2.2 rfl

theorem Recs.congr {w : World} {base kk n : Nat} {R M K : Nat → Nat} {mk : Nat → Nat → Bool} {wt : Nat → Int} {T T' : Nat → Nat → List Int} {B : Nat → Nat → Option Nat} (h : Recs w base kk n R M K mk wt T B) (he : ∀ i, i < kk → T i = T' i) : Recs w base kk n R M K mk wt T' B :=
  ⟨fun i hi => by have := h.each i hi; rw [he i hi] at this; exact this, h.inj, h.apart⟩

theorem info3 : (Ybaf.prog.info? 3).map (fun i => (i.zero, i.size, i.bytes)) = some (some (.int .i64 0), 1, 8) := by kernel_rfl
theorem info_at {P : Program} {t : TypeId} {z : Value} {s b : Nat} (h : (P.info? t).map (fun i => (i.zero, i.size, i.bytes)) = some (some z, s, b)) : ∃ i, P.info? t = some i ∧ i.zero = some z ∧ i.size = s ∧ i.bytes = b := by
  obtain ⟨i, h1, h2⟩ := Option.map_eq_some_iff.1 h
  simp only [Prod.mk.injEq] at h2
  exact ⟨i, h1, h2.1, h2.2.1, h2.2.2⟩

theorem step_append46 {ops : Array Oper} {o : Oper} {a : Act} {w : World} {K : Act → World → Prop} {Q : Exit → Act → World → Prop} {E : Prop}
    (hg : o.guard = none) (s x : Operand) (hop : o.op = Op.call { callee := Callee.builtin Builtin.append, args := #[s, x], argTypes := #[46, 46] })
    {base blk : Nat} {v : Value} {xs : List Int} (hs : a.eval s = v) (hx : a.eval x = .slice (some ⟨blk, 0, none⟩) 1 1) (m : Int) (hb : w.cell? ⟨blk, 0, none⟩ = some (.int .i64 m))
    (h : w.ownsRow base 3 1 v xs.length (xs.map (Value.int .i64))) (hm : xs.length ≤ 100) (hbase : base ≤ w.heap.size)
    (hK : ∀ v' w3, w3.ownsRow base 3 1 v' (xs.length + 1) (xs.map (Value.int .i64) ++ [.int .i64 m]) → w.grownBy w3 v.ownBlock → (v'.ownBlock = v.ownBlock ∨ v'.ownBlock = some w.heap.size) → K (a.put o.dst v') w3) :
    if Region.wanted o (yielded ops a.tmps) = true then Oper.wp Ybaf.prog o a w K Q else E := by
  have hw : Region.wanted o (yielded ops a.tmps) = true := by simp [Region.wanted, hg]
  rw [if_pos hw]
  obtain ⟨i0, hi0, hz0, hz1, hz2⟩ := info_at info3
  obtain ⟨v', w', hr, h2, h3, h4, h5⟩ := run_append_own_at (P := Ybaf.prog) w base 46 o.type 3 i0 (.int .i64 0) 1 8 Ybaf.underlying46 hi0 hz0 hz1 hz2 rfl (by decide) v xs.length (xs.map (Value.int .i64)) h ⟨blk, 0, none⟩ 1 1 [.int .i64 m] rfl (fun j u hj => by
    cases j with
    | zero => simp at hj; subst hj; exact hb
    | succ j => simp at hj) (fun u hu => by simp at hu; subst hu; rfl) (by unfold maxLen; omega) (by omega) hbase
  unfold Oper.wp execOp
  simp only [hop, resolve, invoke, builtin, Sem.run_bind, Sem.run_pure, Result.andThen_ok, List.map_toArray, List.map_cons, List.map_nil, hs, hx, hr]
  exact hK v' w' h2 h3 h5

/-- Behind an append at one row of a record: what the store asks. -/
theorem RecAt.behind {w w3 : World} {base R M K n c : Nat} {mk : Nat → Bool} {wt : Int} {T : Nat → List Int} {B : Nat → Option Nat} {v : Value} {o : Obj} (h : RecAt w base R M K n mk wt T B) (hc : c < n) (hv : v.ownBlock = B c) (hg : (w.alloc o).grownBy w3 v.ownBlock) :
    w3.heap[R]? = w.heap[R]? ∧ w3.heap[M]? = w.heap[M]? := by
  have hlt : ∀ {k : Nat} {x : Obj}, w.heap[k]? = some x → k < w.heap.size := fun h => (Array.getElem?_eq_some_iff.1 h).1
  obtain ⟨cs, h3, h4⟩ := h.msg
  have nb : ∀ {k : Nat} {xs : Array Value} {t : TypeId}, w.heap[k]? = some (.cells xs t (0, 0)) → t ≠ 3 → some k ≠ B c := fun hk ht e => by
    obtain ⟨ys, hy⟩ := h.tag hc e.symm
    exact tag_ne hk hy ht rfl
  have old : ∀ k, k < w.heap.size → some k ≠ B c → w3.heap[k]? = w.heap[k]? := fun k hk hne => by
    rw [hg.block k (by simp; omega) (by rw [hv]; exact hne)]
    exact Below.heap_alloc _ _ _ hk
  exact ⟨old R (hlt h.self) (nb h.self (by decide)), old M (hlt h3) (nb h3 (by decide))⟩

theorem sl_shape {w : World} {base : Nat} {e : TypeId} {size : Nat} {v : Value} {n : Nat} {xs : List Value} (h : w.ownsRow base e size v n xs) : ∃ a k c, v = .slice a k c := by
  rcases h.2 with ⟨rfl, _⟩ | ⟨g, cap, cur, rfl, _⟩
  · exact ⟨_, _, _, rfl⟩
  · exact ⟨_, _, _, rfl⟩
theorem grown_of_drew {w w' : World} {row : Option Nat} (h : w.drew.grownBy w' row) : w.grownBy w' row := ⟨h.os, h.tape, h.output, h.size, h.block⟩

theorem wp_then {P : Program} {cd : Code} {Q : Exit → Act → World → Prop} {a : Act} {w : World} (h : cd.wp P (Exit.then (fun a w => Q .normal a w) Q) a w) : cd.wp P Q a w := by
  have e : Exit.then (fun a w => Q .normal a w) Q = Q := by
    funext x a w
    cases x <;> rfl
  rwa [e] at h

end Go.Proofs.YbulkagfuFmt

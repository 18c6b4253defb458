import Derived.Test.YbulkaggiProg
import Derived.WalkKit
import Derived.WalkSpells
import Derived.WalkLawsBesides
import Derived.OwnWalk
import Derived.Below
import Derived.Maps.OwnSet
import Derived.Maps.RangeWalk
import Derived.Maps.Ext
import Derived.Maps.AppendAt
import Derived.Deep.RegionLaw
import Derived.Deep.RegionHeld3
import Derived.BigQuiet
import Derived.LaidEql
namespace Go.Proofs.Ybulkaggi.CE
open Go.RowKit Go.WideMaps Go.Maps
set_option linter.unusedVariables false
set_option maxRecDepth 100000

theorem or_snd {a b c : Prop} (h : a ∨ b) (f : b → c) : a ∨ c := by
  rcases h with h | h
  · exact .inl h
  · exact .inr (f h)
theorem nod_of {l : List Nat} (h : l.Pairwise (· < ·)) : l.Nodup := List.pairwise_iff_getElem.2 (fun i j hi hj hij => Nat.ne_of_lt (List.pairwise_iff_getElem.1 h i j hi hj hij))
abbrev Pp (b : Nat) : Value := .pointer (some ⟨b, 0, none⟩)
def po : Option Nat → Value
  | none => .pointer none
  | some b => Pp b
def upd {α : Type} (f : Nat → α) (c : Nat) (x : α) : Nat → α := fun j => if j = c then x else f j
theorem upd_same {α : Type} (f : Nat → α) (c : Nat) (x : α) : upd f c x c = x := by simp [upd]
theorem upd_other {α : Type} (f : Nat → α) {c j : Nat} (x : α) (h : j ≠ c) : upd f c x j = f j := by simp [upd, h]

/-! ### Blocks, by their tags -/
theorem tag_ne {w : World} {a b : Nat} {cs cs' : Array Value} {t t' : TypeId} (ha : w.heap[a]? = some (.cells cs t (0, 0))) (hb : w.heap[b]? = some (.cells cs' t' (0, 0))) (h : t ≠ t') : a ≠ b := by
  intro e
  subst e
  rw [ha] at hb
  simp at hb
  exact h hb.2
theorem hlt {w : World} {k : Nat} {x : Obj} (h : w.heap[k]? = some x) : k < w.heap.size := (Array.getElem?_eq_some_iff.1 h).1
theorem own_tag {w : World} {base : Nat} {e : TypeId} {size : Nat} {v : Value} {n : Nat} {xs : List Value} (h : w.ownsRow base e size v n xs) {k : Nat} (hk : v.ownBlock = some k) : ∃ cs, w.heap[k]? = some (.cells cs e (0, 0)) := by
  rcases h.2 with ⟨rfl, _⟩ | ⟨g, cap, cur, rfl, _, hg, _⟩
  · simp [Value.ownBlock] at hk
  · simp [Value.ownBlock] at hk
    subst hk
    exact ⟨cur, hg⟩
theorem own_base {w : World} {base : Nat} {e : TypeId} {size : Nat} {v : Value} {n : Nat} {xs : List Value} (h : w.ownsRow base e size v n xs) {k : Nat} (hk : v.ownBlock = some k) : base ≤ k := by
  rcases h.2 with ⟨rfl, _⟩ | ⟨g, cap, cur, rfl, hb, hg, _⟩
  · simp [Value.ownBlock] at hk
  · simp [Value.ownBlock] at hk
    omega
theorem own_keep {w w' : World} {base : Nat} {e : TypeId} {size : Nat} {v : Value} {n : Nat} {xs : List Value} (h : w.ownsRow base e size v n xs) (hb : ∀ k, v.ownBlock = some k → w'.heap[k]? = w.heap[k]?) : w'.ownsRow base e size v n xs := by
  refine ⟨h.1, ?_⟩
  rcases h.2 with h0 | ⟨g, cap, cur, e', h1, hg, rest⟩
  · exact .inl h0
  · exact .inr ⟨g, cap, cur, e', h1, (hb g (by rw [e']; rfl)).trans hg, rest⟩

/-- Every block of tag t is what it was. -/
def Kt (t : TypeId) (w w' : World) : Prop := ∀ (b : Nat) (cs : Array Value), w.heap[b]? = some (.cells cs t (0, 0)) → w'.heap[b]? = w.heap[b]?
/-- Every map is what it was. -/
def Km (w w' : World) : Prop := ∀ (b : Nat) (es : Array MapEntry) (c : Nat), w.heap[b]? = some (.map es c) → w'.heap[b]? = w.heap[b]?
theorem Kt.setCell {w : World} {b i : Nat} {cs : Array Value} {τ t : TypeId} {v : Value} (hb : w.heap[b]? = some (.cells cs τ (0, 0))) (ht : t ≠ τ) : Kt t w (w.setCell ⟨b, i, none⟩ v) := fun x xs hx => Below.heap_setCell w ⟨b, i, none⟩ v x (tag_ne hx hb ht)
theorem Km.setCell {w : World} {b i : Nat} {cs : Array Value} {τ : TypeId} {v : Value} (hb : w.heap[b]? = some (.cells cs τ (0, 0))) : Km w (w.setCell ⟨b, i, none⟩ v) := fun x es c hx => Below.heap_setCell w ⟨b, i, none⟩ v x (fun e => by
  simp only at e
  rw [e, hb] at hx
  simp at hx)
theorem Kt.alloc (t : TypeId) (w : World) (o : Obj) : Kt t w (w.alloc o) := fun x xs hx => Below.heap_alloc w o x (hlt hx)
theorem Km.alloc (w : World) (o : Obj) : Km w (w.alloc o) := fun x es c hx => Below.heap_alloc w o x (hlt hx)
theorem Kt.grown {w w' : World} {row : Option Nat} {τ t : TypeId} (hg : w.grownBy w' row) (hr : ∀ k, row = some k → ∃ cs, w.heap[k]? = some (.cells cs τ (0, 0))) (ht : t ≠ τ) : Kt t w w' := fun x xs hx => hg.block x (hlt hx) (fun e => by
  obtain ⟨cs, hc⟩ := hr x e.symm
  exact tag_ne hx hc ht rfl)
theorem Km.grown {w w' : World} {row : Option Nat} {τ : TypeId} (hg : w.grownBy w' row) (hr : ∀ k, row = some k → ∃ cs, w.heap[k]? = some (.cells cs τ (0, 0))) : Km w w' := fun x es c hx => hg.block x (hlt hx) (fun e => by
  obtain ⟨cs, hc⟩ := hr x e.symm
  rw [hc] at hx
  simp at hx)
theorem Kt.mapped {w w' : World} {b : Nat} {es : Array MapEntry} {c : Nat} {t : TypeId} (hg : w.grownBy w' (some b)) (hb : w.heap[b]? = some (.map es c)) : Kt t w w' := fun x xs hx => hg.block x (hlt hx) (fun e => by
  simp only [Option.some.injEq] at e
  subst e
  rw [hx] at hb
  simp at hb)
theorem Kt.trans {t : TypeId} {a b c : World} (h : Kt t a b) (k : Kt t b c) : Kt t a c := fun x xs hx => (k x xs ((h x xs hx).trans hx)).trans (h x xs hx)
theorem Km.trans {a b c : World} (h : Km a b) (k : Km b c) : Km a c := fun x es cl hx => (k x es cl ((h x es cl hx).trans hx)).trans (h x es cl hx)

/-! ### What is guarded: below N, or among D -/
def Pd (N : Nat) (D : List Nat) (k : Nat) : Prop := k < N ∨ k ∈ D
structure Fr (N : Nat) (D : List Nat) (w w' : World) : Prop where
  os : w'.os = w.os
  tape : w'.tape = w.tape
  output : w'.output = w.output
  size : w.heap.size ≤ w'.heap.size
  block : ∀ k, Pd N D k → w'.heap[k]? = w.heap[k]?
theorem Fr.refl (N : Nat) (D : List Nat) (w : World) : Fr N D w w := ⟨rfl, rfl, rfl, Nat.le_refl _, fun _ _ => rfl⟩
theorem Fr.trans {N : Nat} {D : List Nat} {a b c : World} (h : Fr N D a b) (k : Fr N D b c) : Fr N D a c := ⟨k.os.trans h.os, k.tape.trans h.tape, k.output.trans h.output, Nat.le_trans h.size k.size, fun i hi => (k.block i hi).trans (h.block i hi)⟩
theorem Fr.mono {N : Nat} {D D' : List Nat} {a b : World} (h : Fr N D' a b) (hD : ∀ x ∈ D, x ∈ D') : Fr N D a b := ⟨h.os, h.tape, h.output, h.size, fun i hi => h.block i (by rcases hi with h1 | h1; exact .inl h1; exact .inr (hD i h1))⟩
theorem Fr.setCell {N : Nat} {D : List Nat} {w : World} {b i : Nat} (hb : ¬ Pd N D b) (v : Value) : Fr N D w (w.setCell ⟨b, i, none⟩ v) := ⟨rfl, rfl, rfl, by simp [World.setCell], fun k hk => Below.heap_setCell w ⟨b, i, none⟩ v k (fun e => hb (by simp only at e; rw [← e]; exact hk))⟩
theorem Fr.alloc {N : Nat} {D : List Nat} {w : World} (hl : ∀ k, Pd N D k → k < w.heap.size) (o : Obj) : Fr N D w (w.alloc o) := ⟨rfl, rfl, rfl, by simp, fun k hk => Below.heap_alloc w o k (hl k hk)⟩
theorem Fr.grown {N : Nat} {D : List Nat} {w w' : World} {row : Option Nat} (hl : ∀ k, Pd N D k → k < w.heap.size) (hg : w.grownBy w' row) (hr : ∀ k, row = some k → ¬ Pd N D k) : Fr N D w w' := ⟨hg.os, hg.tape, hg.output, hg.size, fun k hk => hg.block k (hl k hk) (fun e => hr k e.symm hk)⟩
theorem Fr.drew {N : Nat} {D : List Nat} {w w' : World} (h : Fr N D w w') : Fr N D w w'.drew := ⟨h.os, h.tape, h.output, h.size, h.block⟩

/-! ### Maps' elements -/
/-- A pointer among a map's elements reads as the number of its block; nil as nil. -/
def ptrElem {H : Type} : Value → Option (DataW H × List MemPlace)
  | .pointer (some ⟨b, 0, none⟩) => some (.lit (.int .i64 b), [])
  | .pointer none => some (.nil, [])
  | _ => none
theorem ptrElem_mk {H : Type} (b : Nat) : ptrElem (H := H) (Pp b) = some (.lit (.int .i64 b), []) := rfl
theorem ptrElem_nil {H : Type} : ptrElem (H := H) (.pointer none) = some (.nil, []) := rfl
theorem ptrElem_inv {H : Type} {v : Value} {y : DataW H × List MemPlace} (h : ptrElem v = some y) : (∃ b, v = Pp b ∧ y = (.lit (.int .i64 b), [])) ∨ (v = .pointer none ∧ y = (.nil, [])) := by
  unfold ptrElem at h
  split at h
  · rename_i b
    exact .inl ⟨b, rfl, (Option.some.inj h).symm⟩
  · exact .inr ⟨rfl, (Option.some.inj h).symm⟩
  · cases h
theorem int_wf (a : Nat) (ha : a < 2 ^ 62) : (Lit.int .i64 (a : Int)).wf = true := by
  simp only [Lit.wf, Bool.and_eq_true, decide_eq_true_eq]
  exact ⟨by show (-9223372036854775808 : Int) ≤ a; omega, by show (a : Int) ≤ 9223372036854775807; omega⟩
def klI (h : Nat) : Lit := .int .i64 (h : Int)
theorem klI_key (h : Nat) : WideAt.IsKeyLit (klI h) := by simp [klI, WideAt.IsKeyLit]
theorem klI_inj {a b : Nat} (h : klI a = klI b) : a = b := by simp [klI] at h; omega
def klS (j : Nat) : Lit := .string [97 + j.toUInt8]

/-! ### The table's state -/
structure St where
  th : Bool
  im : Option Nat
  tm : Option Nat
  last : Nat
  G : Value
  gl : List (Int × Int)
  al : Option Nat
  hs : List Nat
  ks : List Nat
  tb : Nat → Nat
  W : Nat → Value
  Q : Nat → Value
  M : Nat → Option Nat
  wt : Nat → Option (Nat × Nat × Bool)
  wl : Nat → List (Nat × Int)
  ql : Nat → List Nat
  its : List Nat
  rd : Nat → Int
  wn : Nat → Int
  wr : Nat → Option Nat

structure RT (N : Nat) (D : List Nat) (w : World) (T : Nat) (th : Bool) (im tm : Option Nat) (last : Nat) (B G : Value) (al : Option Nat) : Prop where
  at_ : w.heap[T]? = some (.cells #[.bool th, .map im, .map tm, .int .u64 last, B, G, .int .i64 0, po al] 55 (0, 0))
  ok : ¬ Pd N D T
structure RX (N : Nat) (D : List Nat) (w : World) (hs : List Nat) (tb : Nat → Nat) (W : Nat → Value) (M : Nat → Option Nat) (wt : Nat → Option (Nat × Nat × Bool)) (Q : Nat → Value) : Prop where
  at_ : ∀ h ∈ hs, w.heap[tb h]? = some (.cells #[.int .i64 h, .int .u64 ((h : Int) + 1), W h, .map (M h), po ((wt h).map (·.1)), Q h] 66 (0, 0))
  ok : ∀ h ∈ hs, ¬ Pd N D (tb h)
  inj : ∀ h ∈ hs, ∀ h' ∈ hs, tb h = tb h' → h = h'
structure RR (N : Nat) (D : List Nat) (w : World) (hs : List Nat) (wt : Nat → Option (Nat × Nat × Bool)) : Prop where
  at_ : ∀ h ∈ hs, ∀ r i b, wt h = some (r, i, b) → w.heap[r]? = some (.cells #[Pp i, .bool b] 118 (0, 0))
  ok : ∀ h ∈ hs, ∀ r i b, wt h = some (r, i, b) → ¬ Pd N D r
structure RI (N : Nat) (D : List Nat) (w : World) (its : List Nat) (rd wn : Nat → Int) (wr : Nat → Option Nat) (tb : Nat → Nat) : Prop where
  at_ : ∀ i ∈ its, w.heap[i]? = some (.cells #[.int .u64 (rd i), .int .u64 (wn i), po ((wr i).map tb)] 126 (0, 0))
  ok : ∀ i ∈ its, ¬ Pd N D i
structure RQ (N : Nat) (D : List Nat) (w : World) (hs : List Nat) (Q : Nat → Value) (ql : Nat → List Nat) (tb : Nat → Nat) : Prop where
  own : ∀ h, h ∈ hs ∨ h = 64 → w.ownsRow N 53 1 (Q h) (ql h).length ((ql h).map fun x => Pp (tb x))
  ok : ∀ h, h ∈ hs ∨ h = 64 → ∀ k, (Q h).ownBlock = some k → ¬ Pd N D k
  inj : ∀ h h' k, h ∈ hs ∨ h = 64 → h' ∈ hs ∨ h' = 64 → (Q h).ownBlock = some k → (Q h').ownBlock = some k → h = h'
def undoC (p : Nat × Int) : List Value := [Pp p.1, .int .u64 p.2]
def ignC (p : Int × Int) : List Value := [.int .u64 p.1, .int .u64 p.2]
structure RW (N : Nat) (D : List Nat) (w : World) (hs : List Nat) (W : Nat → Value) (wl : Nat → List (Nat × Int)) : Prop where
  own : ∀ h ∈ hs, w.ownsRow N 124 2 (W h) (wl h).length ((wl h).flatMap undoC)
  ok : ∀ h ∈ hs, ∀ k, (W h).ownBlock = some k → ¬ Pd N D k
  inj : ∀ h ∈ hs, ∀ h' ∈ hs, ∀ k, (W h).ownBlock = some k → (W h').ownBlock = some k → h = h'
structure RG (N : Nat) (D : List Nat) (w : World) (G : Value) (gl : List (Int × Int)) : Prop where
  own : w.ownsRow N 150 2 G gl.length (gl.flatMap ignC)
  ok : ∀ k, G.ownBlock = some k → ¬ Pd N D k
/-- The items' map: names a, b, c alone; each to an item. -/
def IM (w : World) (b : Nat) (its : List Nat) : Prop := ∃ n, ∃ Dm : DataW Unit, w.ownsMap Yba.prog 9 ptrElem b n Dm ∧ ∀ kl, Maps.has Dm kl = true → (∃ j, j < 3 ∧ kl = klS j) ∧ ∃ i ∈ its, ∀ zd, Dm.atKey kl zd = .lit (.int .i64 (i : Nat))
/-- The transactions' map: the handles ks, each to its block. -/
def TM (w : World) (b : Nat) (ks : List Nat) (tb : Nat → Nat) : Prop := ∃ n, ∃ Dm : DataW Unit, w.ownsMap Yba.prog 3 ptrElem b n Dm ∧ (∀ h, Maps.has Dm (klI h) = decide (h ∈ ks)) ∧ (∀ h ∈ ks, ∀ zd, Dm.atKey (klI h) zd = .lit (.int .i64 (tb h : Nat))) ∧ Maps.size Dm = ks.length
structure RM (N : Nat) (D : List Nat) (w : World) (im tm : Option Nat) (its ks : List Nat) (tb : Nat → Nat) : Prop where
  fim : ∀ b, im = some b → IM w b its
  imok : ∀ b, im = some b → ¬ Pd N D b
  tm0 : tm = none → ks = []
  ftm : ∀ b, tm = some b → TM w b ks tb
  tmok : ∀ b, tm = some b → ¬ Pd N D b
  ne : ∀ b, im = some b → tm = some b → False

structure Rel (N : Nat) (D : List Nat) (T : Nat) (w : World) (S : St) : Prop where
  low : ∀ k, Pd N D k → k < w.heap.size
  lowN : N ≤ w.heap.size
  t : RT N D w T S.th S.im S.tm S.last (S.Q 64) S.G (S.al.map S.tb)
  x : RX N D w S.hs S.tb S.W S.M S.wt S.Q
  r : RR N D w S.hs S.wt
  i : RI N D w S.its S.rd S.wn S.wr S.tb
  q : RQ N D w S.hs S.Q S.ql S.tb
  v : RW N D w S.hs S.W S.wl
  g : RG N D w S.G S.gl
  m : RM N D w S.im S.tm S.its S.ks S.tb

/-! ### Carrying -/
section
variable {N : Nat} {D : List Nat} {w w' : World}
theorem RT.keep {T : Nat} {th : Bool} {im tm : Option Nat} {last : Nat} {B G : Value} {al : Option Nat} (h : RT N D w T th im tm last B G al) (k : Kt 55 w w') : RT N D w' T th im tm last B G al := ⟨(k _ _ h.at_).trans h.at_, h.ok⟩
theorem RX.keep {hs : List Nat} {tb : Nat → Nat} {W : Nat → Value} {M : Nat → Option Nat} {wt : Nat → Option (Nat × Nat × Bool)} {Q : Nat → Value} (h : RX N D w hs tb W M wt Q) (k : Kt 66 w w') : RX N D w' hs tb W M wt Q := ⟨fun x hx => (k _ _ (h.at_ x hx)).trans (h.at_ x hx), h.ok, h.inj⟩
theorem RR.keep {hs : List Nat} {wt : Nat → Option (Nat × Nat × Bool)} (h : RR N D w hs wt) (k : Kt 118 w w') : RR N D w' hs wt := ⟨fun x hx r i b e => (k _ _ (h.at_ x hx r i b e)).trans (h.at_ x hx r i b e), h.ok⟩
theorem RI.keep {its : List Nat} {rd wn : Nat → Int} {wr : Nat → Option Nat} {tb : Nat → Nat} (h : RI N D w its rd wn wr tb) (k : Kt 126 w w') : RI N D w' its rd wn wr tb := ⟨fun x hx => (k _ _ (h.at_ x hx)).trans (h.at_ x hx), h.ok⟩
theorem RQ.keep {hs : List Nat} {Q : Nat → Value} {ql : Nat → List Nat} {tb : Nat → Nat} (h : RQ N D w hs Q ql tb) (k : Kt 53 w w') : RQ N D w' hs Q ql tb := ⟨fun x hx => own_keep (h.own x hx) (fun b hb => by obtain ⟨cs, hc⟩ := own_tag (h.own x hx) hb; exact k _ _ hc), h.ok, h.inj⟩
theorem RW.keep {hs : List Nat} {W : Nat → Value} {wl : Nat → List (Nat × Int)} (h : RW N D w hs W wl) (k : Kt 124 w w') : RW N D w' hs W wl := ⟨fun x hx => own_keep (h.own x hx) (fun b hb => by obtain ⟨cs, hc⟩ := own_tag (h.own x hx) hb; exact k _ _ hc), h.ok, h.inj⟩
theorem RG.keep {G : Value} {gl : List (Int × Int)} (h : RG N D w G gl) (k : Kt 150 w w') : RG N D w' G gl :=
  ⟨own_keep h.own (fun b hb => by obtain ⟨cs, hc⟩ := own_tag h.own hb; exact k _ _ hc), h.ok⟩
theorem map_keep {H : Type} {P : Program} {kt : TypeId} {R : Value → Option (DataW H × List MemPlace)} {b n : Nat} {Dm : DataW H} (h : w.ownsMap P kt R b n Dm) (hb : w'.heap[b]? = w.heap[b]?) : w'.ownsMap P kt R b n Dm := by
  obtain ⟨es, c, h1, r⟩ := h
  exact ⟨es, c, hb.trans h1, r⟩
theorem map_at {H : Type} {P : Program} {kt : TypeId} {R : Value → Option (DataW H × List MemPlace)} {b n : Nat} {Dm : DataW H} (h : w.ownsMap P kt R b n Dm) : ∃ es c, w.heap[b]? = some (.map es c) := by
  obtain ⟨es, c, h1, r⟩ := h
  exact ⟨es, c, h1⟩
theorem IM.keep {b : Nat} {its : List Nat} (h : IM w b its) (hb : w'.heap[b]? = w.heap[b]?) : IM w' b its := by
  obtain ⟨n, Dm, h1, h2⟩ := h
  exact ⟨n, Dm, map_keep h1 hb, h2⟩
theorem TM.keep {b : Nat} {ks : List Nat} {tb : Nat → Nat} (h : TM w b ks tb) (hb : w'.heap[b]? = w.heap[b]?) : TM w' b ks tb := by
  obtain ⟨n, Dm, h1, h2⟩ := h
  exact ⟨n, Dm, map_keep h1 hb, h2⟩
theorem IM.at_ {b : Nat} {its : List Nat} (h : IM w b its) : ∃ es c, w.heap[b]? = some (.map es c) := by
  obtain ⟨n, Dm, h1, h2⟩ := h
  exact map_at h1
theorem TM.at_ {b : Nat} {ks : List Nat} {tb : Nat → Nat} (h : TM w b ks tb) : ∃ es c, w.heap[b]? = some (.map es c) := by
  obtain ⟨n, Dm, h1, h2⟩ := h
  exact map_at h1
theorem RM.keep {im tm : Option Nat} {its ks : List Nat} {tb : Nat → Nat} (h : RM N D w im tm its ks tb) (k : Km w w') : RM N D w' im tm its ks tb :=
  ⟨fun b hb => (h.fim b hb).keep (by obtain ⟨es, c, h1⟩ := (h.fim b hb).at_; exact k _ _ _ h1), h.imok, h.tm0, fun b hb => (h.ftm b hb).keep (by obtain ⟨es, c, h1⟩ := (h.ftm b hb).at_; exact k _ _ _ h1), h.tmok, h.ne⟩
theorem Rel.keep {T : Nat} {S : St} (h : Rel N D T w S) (hs : w.heap.size ≤ w'.heap.size) (k : ∀ t, Kt t w w') (km : Km w w') : Rel N D T w' S :=
  ⟨fun x hx => Nat.lt_of_lt_of_le (h.low x hx) hs, Nat.le_trans h.lowN hs, h.t.keep (k _), h.x.keep (k _), h.r.keep (k _), h.i.keep (k _), h.q.keep (k _), h.v.keep (k _), h.g.keep (k _), h.m.keep km⟩
theorem Rel.alloc {T : Nat} {S : St} (h : Rel N D T w S) (o : Obj) : Rel N D T (w.alloc o) S := h.keep (by simp) (fun t => Kt.alloc t w o) (Km.alloc w o)
theorem Rel.drew {T : Nat} {S : St} (h : Rel N D T w S) : Rel N D T w.drew S := h.keep (Nat.le_refl _) (fun t _ _ _ => rfl) (fun _ _ _ _ => rfl)

/-- More guarded, where it is none of the state's blocks. -/
theorem Rel.guard {T : Nat} {S : St} (h : Rel N D T w S) (k : Nat) (hk : k < w.heap.size)
    (n : k ≠ T ∧ (∀ x ∈ S.hs, k ≠ S.tb x) ∧ (∀ x ∈ S.hs, ∀ r i b, S.wt x = some (r, i, b) → k ≠ r) ∧ (∀ i ∈ S.its, k ≠ i) ∧ (∀ x, x ∈ S.hs ∨ x = 64 → (S.Q x).ownBlock ≠ some k) ∧ (∀ x ∈ S.hs, (S.W x).ownBlock ≠ some k) ∧ S.G.ownBlock ≠ some k ∧ S.im ≠ some k ∧ S.tm ≠ some k) : Rel N (k :: D) T w S := by
  have f : ∀ b, ¬ Pd N D b → k ≠ b → ¬ Pd N (k :: D) b := fun b h1 h2 h3 => by
    rcases h3 with h3 | h3
    · exact h1 (.inl h3)
    · rcases List.mem_cons.1 h3 with e | h3
      · exact h2 e.symm
      · exact h1 (.inr h3)
  obtain ⟨n1, n2, n3, n4, n5, n6, n7, n8, n9⟩ := n
  refine ⟨fun b hb => ?_, h.lowN, ⟨h.t.at_, f _ h.t.ok n1⟩, ⟨h.x.at_, fun x hx => f _ (h.x.ok x hx) (n2 x hx), h.x.inj⟩, ⟨h.r.at_, fun x hx r i b e => f _ (h.r.ok x hx r i b e) (n3 x hx r i b e)⟩, ⟨h.i.at_, fun i hi => f _ (h.i.ok i hi) (n4 i hi)⟩, ⟨h.q.own, fun x hx b hb => f _ (h.q.ok x hx b hb) (fun e => n5 x hx (e ▸ hb)), h.q.inj⟩, ⟨h.v.own, fun x hx b hb => f _ (h.v.ok x hx b hb) (fun e => n6 x hx (e ▸ hb)), h.v.inj⟩, ⟨h.g.own, fun b hb => f _ (h.g.ok b hb) (fun e => n7 (e ▸ hb))⟩, ⟨h.m.fim, fun b hb => f _ (h.m.imok b hb) (fun e => n8 (e ▸ hb)), h.m.tm0, h.m.ftm, fun b hb => f _ (h.m.tmok b hb) (fun e => n9 (e ▸ hb)), h.m.ne⟩⟩
  rcases hb with hb | hb
  · exact h.low b (.inl hb)
  · rcases List.mem_cons.1 hb with rfl | hb
    · exact hk
    · exact h.low b (.inr hb)
/-- Every one of the state's blocks lies in the world. -/
theorem Rel.notNew {T : Nat} {S : St} (h : Rel N D T w S) {k : Nat} (hk : w.heap.size ≤ k) : k ≠ T ∧ (∀ x ∈ S.hs, k ≠ S.tb x) ∧ (∀ x ∈ S.hs, ∀ r i b, S.wt x = some (r, i, b) → k ≠ r) ∧ (∀ i ∈ S.its, k ≠ i) ∧ (∀ x, x ∈ S.hs ∨ x = 64 → (S.Q x).ownBlock ≠ some k) ∧ (∀ x ∈ S.hs, (S.W x).ownBlock ≠ some k) ∧ S.G.ownBlock ≠ some k ∧ S.im ≠ some k ∧ S.tm ≠ some k := by
  have f : ∀ {b : Nat} {o : Obj}, w.heap[b]? = some o → k ≠ b := fun hb e => by have := hlt hb; omega
  refine ⟨f h.t.at_, fun x hx => f (h.x.at_ x hx), fun x hx r i b e => f (h.r.at_ x hx r i b e), fun i hi => f (h.i.at_ i hi), fun x hx e => ?_, fun x hx e => ?_, fun e => ?_, fun e => ?_, fun e => ?_⟩
  · obtain ⟨cs, hc⟩ := own_tag (h.q.own x hx) e; exact f hc rfl
  · obtain ⟨cs, hc⟩ := own_tag (h.v.own x hx) e; exact f hc rfl
  · obtain ⟨cs, hc⟩ := own_tag h.g.own e; exact f hc rfl
  · obtain ⟨es, c, h1⟩ := (h.m.fim k e).at_; exact f h1 rfl
  · obtain ⟨es, c, h1⟩ := (h.m.ftm k e).at_; exact f h1 rfl
theorem Rel.fresh {T : Nat} {S : St} (h : Rel N D T w S) (hs : w.heap.size ≤ w'.heap.size) (kt : ∀ t, Kt t w w') (km : Km w w') {k : Nat} (h1 : w.heap.size ≤ k) (h2 : k < w'.heap.size) : Rel N (k :: D) T w' S := (h.keep hs kt km).guard k h2 (h.notNew h1)
/-- A block of another tag is none of the state's. -/
theorem Rel.guardTag {T : Nat} {S : St} (h : Rel N D T w S) {k : Nat} {cs : Array Value} {t : TypeId} (hk : w.heap[k]? = some (.cells cs t (0, 0))) (n : t ≠ 55 ∧ t ≠ 66 ∧ t ≠ 118 ∧ t ≠ 126 ∧ t ≠ 53 ∧ t ≠ 124 ∧ t ≠ 150) : Rel N (k :: D) T w S := by
  obtain ⟨n1, n2, n3, n4, n5, n6, n7⟩ := n
  refine h.guard k (hlt hk) ⟨tag_ne hk h.t.at_ n1, fun x hx => tag_ne hk (h.x.at_ x hx) n2, fun x hx r i b e => tag_ne hk (h.r.at_ x hx r i b e) n3, fun i hi => tag_ne hk (h.i.at_ i hi) n4, fun x hx e => ?_, fun x hx e => ?_, fun e => ?_, fun e => ?_, fun e => ?_⟩
  · obtain ⟨cs', hc⟩ := own_tag (h.q.own x hx) e; exact tag_ne hk hc n5 rfl
  · obtain ⟨cs', hc⟩ := own_tag (h.v.own x hx) e; exact tag_ne hk hc n6 rfl
  · obtain ⟨cs', hc⟩ := own_tag h.g.own e; exact tag_ne hk hc n7 rfl
  · obtain ⟨es, c, h1⟩ := (h.m.fim k e).at_; rw [hk] at h1; simp at h1
  · obtain ⟨es, c, h1⟩ := (h.m.ftm k e).at_; rw [hk] at h1; simp at h1
theorem Rel.less {T : Nat} {S : St} {D' : List Nat} (h : Rel N D' T w S) (hD : ∀ x ∈ D, x ∈ D') : Rel N D T w S := by
  have f : ∀ {b}, ¬ Pd N D' b → ¬ Pd N D b := fun h1 h2 => h1 (by rcases h2 with h2 | h2; exact .inl h2; exact .inr (hD _ h2))
  exact ⟨fun b hb => h.low b (by rcases hb with h2 | h2; exact .inl h2; exact .inr (hD _ h2)), h.lowN, ⟨h.t.at_, f h.t.ok⟩, ⟨h.x.at_, fun x hx => f (h.x.ok x hx), h.x.inj⟩, ⟨h.r.at_, fun x hx r i b e => f (h.r.ok x hx r i b e)⟩, ⟨h.i.at_, fun i hi => f (h.i.ok i hi)⟩, ⟨h.q.own, fun x hx b hb => f (h.q.ok x hx b hb), h.q.inj⟩, ⟨h.v.own, fun x hx b hb => f (h.v.ok x hx b hb), h.v.inj⟩, ⟨h.g.own, fun b hb => f (h.g.ok b hb)⟩, ⟨h.m.fim, fun b hb => f (h.m.imok b hb), h.m.tm0, h.m.ftm, fun b hb => f (h.m.tmok b hb), h.m.ne⟩⟩
end

end Go.Proofs.Ybulkaggi.CE

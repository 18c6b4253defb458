import Derived.Test.YbulkaggiCk
namespace Go.Proofs.Ybulkaggi.CE
open Go.RowKit Go.WideMaps Go.Maps
set_option linter.unusedVariables false
set_option maxRecDepth 100000

abbrev newS (S : St) (x n : Nat) : St := { S with hs := S.hs ++ [x], tb := upd S.tb x n, W := upd S.W x (.slice none 0 0), Q := upd S.Q x (.slice none 0 0), M := upd S.M x none, wt := upd S.wt x none, wl := upd S.wl x [], ql := upd S.ql x [] }
theorem Inv.newX {c : Nat} {S : St} (I : Inv c S) {x : Nat} (hx : x < 64) (hn : x ∉ S.hs) (n : Nat) : Inv c (newS S x n) := by
  have mem : ∀ y, y ∈ S.hs ++ [x] → y = x ∨ (y ≠ x ∧ y ∈ S.hs) := fun y hy => by
    by_cases e : y = x
    · exact .inl e
    · exact .inr ⟨e, by simpa [e] using hy⟩
  have ne : ∀ y ∈ S.hs, y ≠ x := fun y hy e => hn (e ▸ hy)
  have ql : ∀ h z, h ∈ S.hs ++ [x] → z ∈ upd S.ql x [] h → h ∈ S.hs ∧ z ∈ S.ql h := fun h z hh hz => by
    rcases mem h hh with rfl | ⟨e, e'⟩
    · rw [upd_same] at hz
      simp at hz
    · rw [upd_other _ _ e] at hz
      exact ⟨e', hz⟩
  have wl : ∀ h p, h ∈ S.hs ++ [x] → p ∈ upd S.wl x [] h → h ∈ S.hs ∧ p ∈ S.wl h := fun h z hh hz => by
    rcases mem h hh with rfl | ⟨e, e'⟩
    · rw [upd_same] at hz
      simp at hz
    · rw [upd_other _ _ e] at hz
      exact ⟨e', hz⟩
  refine ⟨fun y hy => ?_, fun h hh z hz => ?_, fun h hh => ?_, fun h hh h' hh' z hz hz' => ?_, fun i hi h hw => ?_, fun h hh p hp => ?_, fun h hh => ?_, fun h hh r i b hr => ?_, fun h hh => ?_, I.cg⟩
  · rcases mem y hy with rfl | ⟨_, e⟩
    · exact hx
    · exact I.lt y e
  · obtain ⟨h1, h2⟩ := ql h z hh hz
    obtain ⟨h3, h4⟩ := I.q1 h h1 z h2
    refine ⟨by simp [h3], ?_⟩
    show upd S.wt x none z ≠ none
    rw [upd_other _ _ (ne z h3)]
    exact h4
  · show (upd S.ql x [] h).Nodup
    rcases mem h hh with rfl | ⟨e, e'⟩
    · rw [upd_same]; simp
    · rw [upd_other _ _ e]; exact I.q2 h e'
  · obtain ⟨h1, h2⟩ := ql h z hh hz
    obtain ⟨h3, h4⟩ := ql h' z hh' hz'
    exact I.q3 h h1 h' h3 z h2 h4
  · obtain ⟨a1, a2, u, a3⟩ := I.w1 i hi h hw
    refine ⟨by simp [a1], a2, u, ?_⟩
    show (i, u) ∈ upd S.wl x [] h
    rw [upd_other _ _ (ne h a1)]
    exact a3
  · obtain ⟨h1, h2⟩ := wl h p hh hp
    exact I.w2 h h1 p h2
  · show ((upd S.wl x [] h).map (·.1)).Nodup
    rcases mem h hh with rfl | ⟨e, e'⟩
    · rw [upd_same]; simp
    · rw [upd_other _ _ e]; exact I.w3 h e'
  · have hr' : upd S.wt x none h = some (r, i, b) := hr
    rcases mem h hh with rfl | ⟨e, e'⟩
    · rw [upd_same] at hr'; cases hr'
    · rw [upd_other _ _ e] at hr'
      exact I.r1 h e' r i b hr'
  · show (upd S.wl x [] h).length ≤ c
    rcases mem h hh with rfl | ⟨e, e'⟩
    · rw [upd_same]; simp
    · rw [upd_other _ _ e]; exact I.cw h e'
theorem Inv.ks {c : Nat} {S : St} (I : Inv c S) (k : List Nat) (a tm : Option Nat) (q : Nat → Value) (l : Nat) : Inv c { S with ks := k, al := a, tm := tm, Q := q, last := l } := ⟨I.lt, I.q1, I.q2, I.q3, I.w1, I.w2, I.w3, I.r1, I.cw, I.cg⟩
theorem Inv.l64 {c : Nat} {S : St} (I : Inv c S) (q : Nat → Value) (l : List Nat) : Inv c { S with Q := q, ql := upd S.ql 64 l } := by
  have e : ∀ h ∈ S.hs, upd S.ql 64 l h = S.ql h := fun h hh => upd_other _ _ (fun e => I.no64 (e ▸ hh))
  refine ⟨I.lt, fun h hh z hz => ?_, fun h hh => ?_, fun h hh h' hh' z hz hz' => ?_, I.w1, I.w2, I.w3, I.r1, I.cw, I.cg⟩
  · have hz' : z ∈ upd S.ql 64 l h := hz
    rw [e h hh] at hz'
    exact I.q1 h hh z hz'
  · show (upd S.ql 64 l h).Nodup
    rw [e h hh]
    exact I.q2 h hh
  · have h1 : z ∈ upd S.ql 64 l h := hz
    have h2 : z ∈ upd S.ql 64 l h' := hz'
    rw [e h hh] at h1
    rw [e h' hh'] at h2
    exact I.q3 h hh h' hh' z h1 h2

structure BeginRes (N : Nat) (D : List Nat) (T : Nat) (w : World) (S : St) (x c : Nat) (w' : World) (S' : St) : Prop where
  rel : Rel N D T w' S'
  fr : Fr N D w w'
  inv : Inv (c + 3) S'
  hs : S'.hs = S.hs ++ [x]
  ks : S'.ks = S.ks ++ [x]
  l64 : S'.ql 64 = S.ql 64 ++ [x]
  last : S'.last = x + 1
  tm : ∃ b, S'.tm = some b
  al : S'.al = if S.hs = [] then some x else none
  M : S'.M x = none
def BeginPost (N : Nat) (D : List Nat) (T : Nat) (w : World) (S : St) (x c : Nat) (e : Ending) (w' : World) : Prop :=
  e = .returned (.tuple #[]) ∧ ∃ S', BeginRes N D T w S x c w' S'
/-- The state ahead of the new transaction. -/
structure BM (N : Nat) (D : List Nat) (T : Nat) (w : World) (S : St) (x c : Nat) (w' : World) (A : St) : Prop where
  rel : Rel N D T w' A
  fr : Fr N D w w'
  inv : Inv (c + 3) A
  hs : A.hs = S.hs
  ks : A.ks = S.ks
  ql : A.ql = S.ql
  last : A.last = x + 1
  tm : A.tm = S.tm
  al : A.al = none

theorem Rel.eta_al' {N : Nat} {D : List Nat} {T : Nat} {w : World} {S : St} (h : Rel N D T w S) (e : S.al = none) : Rel N D T w { S with al := none } := by
  have e2 : ({ S with al := none } : St) = S := by rw [← e]
  rw [e2]
  exact h
theorem eq_tm (o : Option Nat) : ∃ r : Bool, (∀ W, (binOp .eql 49 (.map o) (.map none)).run Yba.prog W = .ok (.bool r) W) ∧ (r = true → o = none) ∧ (r = false → ∃ b, o = some b) := by
  cases o with
  | none => exact ⟨true, eqm49_nil, by simp⟩
  | some b => exact ⟨false, eqm49 b, by simp⟩
theorem look49_nil (w : World) (x : Nat) (hx : x < 2 ^ 62) : (Instr.lookup 49 (.map none) (.int .i64 (x : Int)) true).run Yba.prog w = .ok (.tuple #[.pointer none, .bool false]) w := by
  have := Maps.look_nil (w := w) true key3 Yba.underlying49 (zero53 w) (keyI x hx)
  simpa using this
theorem lookTm {N : Nat} {D : List Nat} {T : Nat} {w : World} {S : St} (h : Rel N D T w S) {x : Nat} (hx : x < 64) (hk : x ∉ S.ks) : ∃ v, (Instr.lookup 49 (.map S.tm) (.int .i64 (x : Int)) true).run Yba.prog w = .ok (.tuple #[v, .bool false]) w := by
  cases e : S.tm with
  | none => exact ⟨_, look49_nil w x (by omega)⟩
  | some b =>
    obtain ⟨v, hv⟩ := (h.m.ftm b e).lookOk (x := x) (by omega)
    exact ⟨v, by simpa [hk] using hv⟩
theorem len49_nil (w : World) (ty : TypeId) : (Builtin.len_ #[49] ty #[.map none]).run Yba.prog w = .ok (.int .i64 0) w := by kernel_rfl
theorem lenTm {N : Nat} {D : List Nat} {T : Nat} {w : World} {S : St} (h : Rel N D T w S) (ty : TypeId) : (Builtin.len_ #[49] ty #[.map S.tm]).run Yba.prog w = .ok (.int .i64 (S.ks.length : Nat)) w := by
  cases e : S.tm with
  | none => rw [h.m.tm0 e]; exact len49_nil w ty
  | some b => exact (h.m.ftm b e).len ty
theorem ne_alone (al : Option Nat) (tb : Nat → Nat) : ∃ r : Bool, (∀ W, (binOp .neq 53 (po (al.map tb)) (.pointer none)).run Yba.prog W = .ok (.bool r) W) ∧ ((r = true → ∃ y, al = some y) ∧ (r = false → al = none)) := by
  cases al with
  | none => exact ⟨false, fun W => by kernel_rfl, by simp⟩
  | some x => exact ⟨true, fun W => ne_ptr_nil W _, by simp⟩
abbrev txnO (x : Nat) : Obj := .cells #[.int .i64 x, .int .u64 ((x : Int) + 1), .slice none 0 0, .map none, .pointer none, .slice none 0 0] 66 (0, 0)

set_option maxHeartbeats 2000000 in
theorem begin_any {N : Nat} {D : List Nat} {T : Nat} {w : World} {S : St} (h : Rel N D T w S) {c : Nat} (I : Inv c S) (hc : c + 3 ≤ 100000) {x : Nat} (hx : x < 64) (hnew : ∀ y ∈ S.hs, y < x) (hlast : S.last = x) (hks : S.ks = S.hs) (hq : S.ql 64 = S.hs) (hsp : S.hs.Pairwise (· < ·)) (hal : ∀ y, S.al = some y → S.hs = [y]) (um : ∀ y b, S.al = some y → S.M y = some b → b ∈ D ∧ UM w b) :
    Calls Yba.prog 18 #[Pp T, .int .i64 (x : Int), .int .u64 ((x : Int) + 1)] w (BeginPost N D T w S x c) := by
  have hlen : Hid (S.hs.length ≤ 64) := len_le 64 S.hs (nod_of hsp) I.lt
  clear hsp
  have hxn : x ∉ S.hs := fun e => by have := hnew x e; omega
  have c3 : w.cell? ⟨T, 3, none⟩ = some (.int .u64 (x : Int)) := by rw [cell_at h.t.at_, hlast]; rfl
  have f3 := free_at h.t.at_ 3
  have c2 : w.cell? ⟨T, 2, none⟩ = some (.map S.tm) := (cell_at h.t.at_ 2).trans rfl
  have c7 : w.cell? ⟨T, 7, none⟩ = some (po (S.al.map S.tb)) := (cell_at h.t.at_ 7).trans rfl
  have f7 := free_at h.t.at_ 7
  have hle : ¬ ((x : Int) + 1 ≤ (x : Int)) := by omega
  obtain ⟨v2, r2⟩ := lookTm h hx (by rw [hks]; exact hxn)
  obtain ⟨r, hr, hr1, hr2⟩ := ne_alone S.al S.tb
  obtain ⟨h0, fr0⟩ := h.setLast (x + 1)
  have ex : ((x + 1 : Nat) : Int) = (x : Int) + 1 := by omega
  rw [ex] at h0 fr0
  have I0 : Inv c { S with last := x + 1 } := I.ks _ _ _ _ _
  have H0 := hide h0
  have F0 := hide fr0
  have HR1 := hide hr1
  have HR2 := hide hr2
  have HUM := hide um
  have HAL := hide hal
  have HKS := hide hks
  have HQ := hide hq
  have HNX := hide hxn
  have HNW := hide hnew
  have II := hide I0
  clear h I h0 fr0 hr1 hr2 um hal hks hq hxn hnew hlast I0
  obtain ⟨pv, hpv⟩ : ∃ pv, po (S.al.map S.tb) = .pointer pv := by
    cases S.al with
    | none => exact ⟨none, rfl⟩
    | some y => exact ⟨_, rfl⟩
  rw [hpv] at c7 hr
  have HPV := hide hpv
  clear hpv
  go_enter Yba.func18, Yba.ntmps18
  go_upto_if 35 with fail
  go_cut [] from 36 to 44 (fun wx => ∃ A, BM N D T w S x c wx A)
  case first =>
    cases r with
    | false =>
      have e := HR2.out rfl
      go_wp2
      go_meet
      exact ⟨_, ⟨H0.out, F0.out, II.out.mono (by omega), rfl, rfl, rfl, rfl, rfl, e⟩⟩
    | true =>
      obtain ⟨y, e⟩ := HR1.out rfl
      have hy := HAL.out y e
      have C39 := hide (share_any H0.out II.out hc hy (fun b hb => by
        obtain ⟨u1, u2⟩ := HUM.out y b e hb
        exact ⟨u1, u2.keep (F0.out.block b (.inr u1))⟩))
      have ea : po (S.al.map S.tb) = Pp (S.tb y) := by rw [e]; rfl
      rw [HPV.out] at ea
      have C39' : Hid (Calls Yba.prog 39 #[Pp T, Pp (S.tb y)] (w.setCell ⟨T, 3, none⟩ (.int .u64 ((x : Int) + 1))) (SharePost N D T (w.setCell ⟨T, 3, none⟩ (.int .u64 ((x : Int) + 1))) { S with last := x + 1 } y c)) := C39
      clear C39
      rw [← ea] at C39'
      clear ea
      go_wp2_with (go_at_call 39; refine C39'.out.mono ?_; rintro e w2 ⟨rfl, A, p1, p2, p3, p4⟩; have c7' : w2.cell? ⟨T, 7, none⟩ = some _ := cell_at p1.t.at_ 7; have f7' := free_at p1.t.at_ 7; have P := hide (And.intro p1 (And.intro p2 (And.intro p3 p4))); clear p1 p2 p3 p4)
      go_meet
      obtain ⟨p1, p2, p3, p4⟩ := P.out
      obtain ⟨q1, q2⟩ := p1.setAl none
      exact ⟨_, ⟨q1, (F0.out.trans p2).trans q2, p3.ks _ _ _ _ _, by rw [p4], by rw [p4], by rw [p4], by rw [p4], by rw [p4], rfl⟩⟩
  case rest =>
    obtain ⟨A, B⟩ := hcut
    clear c3 f3 c2 c7 f7 r2 hr HR1 HR2 HPV
    have hxA : x ∉ A.hs := by rw [B.hs]; exact HNX.out
    have h1 := B.rel.newX (x := x) hxA (by omega) (by rw [B.ks, HKS.out]; exact HNX.out) (by rw [B.al]; simp) (fun i hi e => hxA (B.inv.w1 i hi x e).1) (fun y hy e => by
      rcases hy with hy | rfl
      · exact hxA (B.inv.q1 y hy x e).1
      · rw [B.ql, HQ.out] at e; exact HNX.out e)
    have I1 := B.inv.newX hx hxA wc.heap.size
    have f1 := B.fr.trans (Fr.alloc B.rel.low (txnO x))
    have etm : (newS A x wc.heap.size).tm = S.tm := B.tm
    have ekl : (newS A x wc.heap.size).ks = S.hs := B.ks.trans HKS.out
    have c2 : wc.cell? ⟨T, 2, none⟩ = some (.map S.tm) := by rw [cell_at B.rel.t.at_, B.tm]; rfl
    have c7 : ∃ v, wc.cell? ⟨T, 7, none⟩ = some v := ⟨_, cell_at B.rel.t.at_ 7⟩
    obtain ⟨v7, c7⟩ := c7
    have f7 := free_at B.rel.t.at_ 7
    have lT := hlt B.rel.t.at_
    have rl : ∀ ty, (Builtin.len_ #[49] ty #[.map S.tm]).run Yba.prog (wc.alloc (txnO x)) = .ok (.int .i64 (S.hs.length : Nat)) (wc.alloc (txnO x)) := fun ty => by
      have := lenTm h1 ty
      rw [ekl] at this
      rw [← etm]
      exact this
    have HN1 : Hid (S.hs = [] → Rel N D T ((wc.setCell ⟨T, 7, none⟩ (Pp wc.heap.size)).alloc (txnO x)) { newS A x wc.heap.size with al := if S.hs = [] then some x else none } ∧ Fr N D w ((wc.setCell ⟨T, 7, none⟩ (Pp wc.heap.size)).alloc (txnO x))) := fun e => by
      obtain ⟨k1, k2⟩ := h1.setAl (some x)
      have e1 : po ((some x).map (newS A x wc.heap.size).tb) = Pp wc.heap.size := by
        show Pp (upd A.tb x wc.heap.size x) = _
        rw [upd_same]
      rw [e1, World.setCell_alloc_past _ _ _ _ lT] at k1 k2
      rw [if_pos e]
      exact ⟨k1, f1.trans k2⟩
    have HN0 : Hid (¬ S.hs = [] → Rel N D T (wc.alloc (txnO x)) { newS A x wc.heap.size with al := if S.hs = [] then some x else none } ∧ Fr N D w (wc.alloc (txnO x))) := fun e => by
      rw [if_neg e]
      exact ⟨h1.eta_al' B.al, f1⟩
    have I2 : Hid (Inv (c + 3) (newS A x wc.heap.size)) := I1
    have ek : Hid (A.ks = S.ks) := B.ks
    have eq : Hid (A.ql 64 = S.ql 64) := by rw [B.ql]; exact rfl
    have ehs : Hid (A.hs = S.hs) := B.hs
    have el : Hid (A.last = x + 1) := B.last
    have et : Hid (A.tm = S.tm) := B.tm
    clear h1 I1 f1 etm ekl B hxA
    go_upto_if 54 with fail
    generalize wc.heap.size = n at HN0 HN1 I2 ⊢
    generalize hq : ((S.hs.length : Int) == 0) = q
    have HQ4 := hide hq
    clear hq
    go_cut [] from 55 to 58 (fun wx => Rel N D T wx { newS A x n with al := if S.hs = [] then some x else none } ∧ Fr N D w wx)
    case first =>
      cases q with
      | true =>
        have HN := hide (HN1.out (List.length_eq_zero_iff.1 (by have := eq_of_beq HQ4.out; omega)))
        clear HN1 HN0 rl
        go_wp2
        go_meet
        exact HN.out
      | false =>
        have HN := hide (HN0.out (fun e => by have := HQ4.out; rw [e] at this; simp at this))
        clear HN1 HN0 rl
        go_wp2
        go_meet
        exact HN.out
    case rest =>
      obtain ⟨h3, f3⟩ := hcut
      clear c2 c7 f7 lT rl HN1 HN0 HQ4
      have c2 : wc.cell? ⟨T, 2, none⟩ = some (.map S.tm) := by rw [cell_at h3.t.at_, ← et.out]; rfl
      have f2 := free_at h3.t.at_ 2
      have lT := hlt h3.t.at_
      have hmm := @run_makeMap Yba.prog
      have HN0 : Hid (∀ b, S.tm = some b → Rel N D T wc { newS A x n with al := (if S.hs = [] then some x else none), tm := some b } ∧ Fr N D w wc) := fun b e => by
        have e2 : ({ newS A x n with al := (if S.hs = [] then some x else none), tm := some b } : St) = { newS A x n with al := if S.hs = [] then some x else none } := by
          rw [← e, ← et.out]
        rw [e2]
        exact ⟨h3, f3⟩
      have HN1 : Hid (S.tm = none → Rel N D T ((wc.setCell ⟨T, 2, none⟩ (.map (some wc.heap.size))).alloc (.map #[] 0)) { newS A x n with al := (if S.hs = [] then some x else none), tm := some wc.heap.size } ∧ Fr N D w ((wc.setCell ⟨T, 2, none⟩ (.map (some wc.heap.size))).alloc (.map #[] 0))) := fun e => by
        obtain ⟨n1, n2, n3⟩ := h3.freshMap
        have ek0 : A.ks = [] := h3.m.tm0 (et.out.trans e)
        obtain ⟨k1, k2⟩ := (h3.alloc (.map #[] 0)).setTm wc.heap.size (by show TM _ _ A.ks _; rw [ek0]; exact TM.made wc _) n1 n3
        rw [World.setCell_alloc_past _ _ _ _ lT] at k1 k2
        exact ⟨k1, (f3.trans (Fr.alloc h3.low _)).trans k2⟩
      clear h3 f3
      obtain ⟨rr, E1, E2, E3⟩ := eq_tm S.tm
      have HE2 := hide E2
      have HE3 := hide E3
      clear E2 E3
      generalize htm : S.tm = tm at c2 HE2 HE3 E1 HN0 HN1 ⊢
      have HTM := hide htm
      clear htm
      go_upto_if 63 with fail
      go_cut [] from 64 to 67 (fun wx => ∃ b, Rel N D T wx { newS A x n with al := (if S.hs = [] then some x else none), tm := some b } ∧ Fr N D w wx)
      case first =>
        cases rr with
        | true =>
          have HN := hide (HN1.out (HE2.out rfl))
          clear HN0 HN1
          go_wp2
          go_meet
          exact ⟨_, HN.out⟩
        | false =>
          obtain ⟨b, e⟩ := HE3.out rfl
          have HN := hide (HN0.out b e)
          clear HN0 HN1 e
          go_wp2
          go_meet
          exact ⟨_, HN.out⟩
      case rest =>
        obtain ⟨b, h4, f4⟩ := hcut
        clear c2 f2 lT HN0 HN1 E1 HE2 HE3 hmm
        have c2 : wc.cell? ⟨T, 2, none⟩ = some (.map (some b)) := (cell_at h4.t.at_ 2).trans rfl
        obtain ⟨w5, r5, t5, g5⟩ := (h4.m.ftm b rfl).put (x := x) (by omega) (by show x ∉ A.ks; rw [ek.out, HKS.out]; exact HNX.out) (by show A.ks.length ≤ 1000; rw [ek.out, HKS.out]; have := hlen.out; omega) n (upd_same _ _ _)
        obtain ⟨h5, f5⟩ := h4.mapT rfl g5 t5
        have q64 : upd A.Q x (.slice none 0 0) 64 = A.Q 64 := upd_other _ _ (by omega)
        have l64 : upd A.ql x [] 64 = A.ql 64 := upd_other _ _ (by omega)
        have how := h5.q.own 64 (.inr rfl)
        have c4 : w5.cell? ⟨T, 4, none⟩ = some (A.Q 64) := by rw [cell_at h5.t.at_, ← q64]; rfl
        have f4' := free_at h5.t.at_ 4
        have lT := hlt h5.t.at_
        have how' : w5.ownsRow N 53 1 (A.Q 64) (A.ql 64).length ((A.ql 64).map fun y => Pp (upd A.tb x n y)) := by
          have := how
          change w5.ownsRow N 53 1 (upd A.Q x (.slice none 0 0) 64) (upd A.ql x [] 64).length ((upd A.ql x [] 64).map fun y => Pp (upd A.tb x n y)) at this
          rw [q64, l64] at this
          exact this
        obtain ⟨qa, qk, hq⟩ := sl_shape how'
        have nT : ∀ k, (A.Q 64).ownBlock = some k → k ≠ T := fun k hk => by
          obtain ⟨cs, hcs⟩ := own_tag how' hk
          exact tag_ne hcs h5.t.at_ (by decide)
        have HP : Hid (∀ v' w6, w6.ownsRow N 53 1 v' ((A.ql 64).length + 1) (((A.ql 64).map fun y => Pp (upd A.tb x n y)) ++ [Pp n]) → (w5.alloc (.cells #[Pp n] 53)).grownBy w6 (A.Q 64).ownBlock → (v'.ownBlock = (A.Q 64).ownBlock ∨ v'.ownBlock = some (w5.alloc (.cells #[Pp n] 53)).heap.size) → BeginPost N D T w S x c (.returned (.tuple #[])) (w6.setCell ⟨T, 4, none⟩ v')) := fun v' w6 k1 k2 k3 => by
          have eq6 : ((A.ql 64).map fun y => Pp (upd A.tb x n y)) ++ [Pp n] = (A.ql 64 ++ [x]).map fun y => Pp (upd A.tb x n y) := by simp [upd_same]
          rw [eq6] at k1
          have h5' := h5.alloc (.cells #[Pp n] 53)
          have n64 : 64 ∉ (newS A x n).hs := I2.out.no64
          obtain ⟨h6, f6⟩ := h5'.setB (l' := A.ql 64 ++ [x]) n64 (by show World.grownBy _ _ (upd A.Q x (.slice none 0 0) 64).ownBlock; rw [q64]; exact k2) (by simpa using k1) (by
            show v'.ownBlock = (upd A.Q x (.slice none 0 0) 64).ownBlock ∨ _
            rw [q64]
            exact or_snd k3 (fun e => ⟨_, e, Nat.le_refl _⟩))
          refine ⟨rfl, _, ⟨h6, ((f4.trans f5).trans (Fr.alloc h5.low _)).trans f6, (I2.out.ks _ _ _ _ _).l64 _ _, ?_, ?_, ?_, el.out, ⟨b, rfl⟩, rfl, upd_same _ _ _⟩⟩
          · show A.hs ++ [x] = _
            rw [ehs.out]
          · show A.ks ++ [x] = _
            rw [ek.out]
          · show upd (upd A.ql x []) 64 (A.ql 64 ++ [x]) 64 = S.ql 64 ++ [x]
            rw [upd_same, eq.out]
        have hN : N ≤ w5.heap.size := h5.lowN
        have lm : (A.ql 64).length ≤ 64 := by rw [eq.out, HQ.out]; exact hlen.out
        rw [hq] at c4 how' nT HP
        have HO := hide how'
        have HT := hide nT
        clear h4 f4 h5 f5 t5 g5 how how' nT hq q64 l64 I2 ek eq ehs el et
        generalize (A.ql 64).length = m at *
        generalize ((A.ql 64).map fun y => Pp (upd A.tb x n y)) = XS at *
        obtain ⟨i0, hi0, hz0, hz1, hz2⟩ := info_at info53
        go_wp2_with (at_builtin; refine wpList_append_own_at _ rfl _ _ 51 rfl N 53 i0 (.pointer none) 1 8 Yba.underlying51 hi0 hz0 hz1 hz2 rfl (by decide) (.slice qa m qk) m XS rfl (HO.out.alloc _) ⟨w5.heap.size, 0, none⟩ 1 1 [Pp n] rfl rfl ?c1 ?c2 ?c3 ?c4 ?c5 ?_)
        case c2 => rfl
        case c3 => unfold maxLen; omega
        case c4 => omega
        case c5 => omega
        intro v' w6 k1 k2 _ k3
        have b6 := (k2.block T (by simp; omega) (fun e => HT.out T e.symm rfl)).trans (Below.heap_alloc w5 _ T lT)
        have c6 := (World.cell?_of_block (a := ⟨T, 4, none⟩) b6).trans c4
        have f6 := (World.frozen?_of_block (a := ⟨T, 4, none⟩) b6).trans f4'
        have HP6 := hide (HP.out v' w6 k1 k2 (by simpa using k3))
        obtain ⟨va', vk', rfl⟩ := sl_shape k1
        clear k1 k2 k3 b6 HP HO HT c4 f4'
        go_wp2
        go_end0
        exact HP6.out

end Go.Proofs.Ybulkaggi.CE

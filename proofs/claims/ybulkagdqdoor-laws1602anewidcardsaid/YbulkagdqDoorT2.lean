import Derived.Test.YbulkagdqDoorT1
namespace Go.Proofs.YbulkagdqDoor
open Go.RowKit

/-- A byte slice that lies in memory: the numbers 'zs' are its elements. -/
structure InBytes (w : World) (a : Option Addr) (n : Nat) (zs : List Int) : Prop where
  len : zs.length = n
  bd : ∀ i : Nat, 0 ≤ zs[i]?.getD 0 ∧ zs[i]?.getD 0 ≤ 255
  at_ : 0 < n → ∃ b off, a = some ⟨b, off, none⟩ ∧ b < w.heap.size ∧ ∀ i, i < n → w.cell? ⟨b, off + i, none⟩ = some (.int .u8 (zs[i]?.getD 0))

def Seen (w : World) (B : Nat) (sn : Nat → Bool) : Prop := ∀ x, x < 256 → w.cell? ⟨B, x, none⟩ = some (.bool (sn x)) ∧ w.frozen? ⟨B, x, none⟩ = false

theorem Seen.set {w : World} {B : Nat} {sn : Nat → Bool} (h : Seen w B sn) (k : Nat) : Seen (w.setCell ⟨B, k, none⟩ (.bool true)) B (fun x => if x = k then true else sn x) := by
  intro x hx
  refine ⟨?_, by rw [World.frozen?_setCell]; exact (h x hx).2⟩
  by_cases e : x = k
  · subst e
    simp only [if_true]
    exact World.cell?_setCell_same _ _ _ (h x hx).1
  · simp only [e, if_false]
    have hne : (⟨B, k, none⟩ : Addr) ≠ ⟨B, x, none⟩ := fun h => e (by injection h with _ h2 _; exact h2.symm)
    rw [World.cell?_setCell_other _ _ _ _ hne]
    exact (h x hx).1
theorem Seen.kept {w w' : World} {B : Nat} {sn : Nat → Bool} (h : Seen w B sn) (hb : w'.heap[B]? = w.heap[B]?) : Seen w' B sn := by
  intro x hx
  rw [World.cell?_of_block (w := w) (a := ⟨B, x, none⟩) hb, World.frozen?_of_block (w := w) (a := ⟨B, x, none⟩) hb]
  exact h x hx
theorem Seen.start (w : World) : Seen (w.alloc (.cells Ybad.zeroCells89 89)) w.heap.size (fun _ => false) := by
  intro x hx
  refine ⟨?_, by simp⟩
  have e : Ybad.zeroCells89 = Array.replicate 256 (.bool false) := by kernel_rfl
  rw [e]
  simp [hx]

theorem ownsRow_shape {w : World} {base : Nat} {e : TypeId} {size : Nat} {v : Value} {n : Nat} {xs : List Value} (h : w.ownsRow base e size v n xs) : ∃ a c, v = .slice a n c := by
  rcases h.2 with ⟨rfl, rfl⟩ | ⟨g, cap, _, rfl, _⟩
  · exact ⟨_, _, rfl⟩
  · exact ⟨_, _, rfl⟩

theorem Ybad.info5 : (Ybad.prog.info? 5).map (fun i => (i.zero, i.size, i.bytes)) = some (some (.int .u8 0), 1, 1) := by kernel_rfl

theorem distinct_step {w wr w1 : World} {v : Value} {l : List Int} {sn : Nat → Bool} {zn : Nat} (hzn : zn < 256)
    (hs : Seen wr w.heap.size sn) (hsn : sn zn = false) (hl : ∀ z ∈ l, sn z.toNat = true ∧ 0 ≤ z ∧ z ≤ 255) (hd : l.Nodup)
    (hb : Below w.heap.size w wr) (hlt : w.heap.size < wr.heap.size) (hown : wr.ownsRow (w.heap.size + 1) 5 1 v l.length (l.map (Value.int .u8)))
    (hg : ((wr.setCell ⟨w.heap.size, zn, none⟩ (.bool true)).alloc (.cells #[.int .u8 (zn : Int)] 5)).grownBy w1 v.ownBlock) :
    (∃ sn', Seen w1 w.heap.size sn' ∧ ∀ z ∈ l ++ [(zn : Int)], sn' z.toNat = true ∧ 0 ≤ z ∧ z ≤ 255) ∧ (l ++ [(zn : Int)]).Nodup ∧ Below w.heap.size w w1 ∧ w.heap.size < w1.heap.size := by
  have hsz := hg.size
  have hne : some w.heap.size ≠ v.ownBlock := by
    intro e
    have := (hown.lt _ e.symm).1
    omega
  have hB : Below w.heap.size w w1 :=
    ((hb.setCell (p := ⟨w.heap.size, zn, none⟩) (Nat.le_refl _) _).alloc (by simp [World.setCell]; omega) _).grown hg (by simp [World.setCell]; omega) (fun k hk => by have := (hown.lt k hk).1; omega)
  refine ⟨⟨fun x => if x = zn then true else sn x, ?_, ?_⟩, ?_, hB, by simp [World.setCell] at hsz; omega⟩
  · refine (hs.set zn).kept ?_
    rw [hg.block w.heap.size (by simp [World.setCell]; omega) hne]
    exact Below.heap_alloc _ _ _ (by simp [World.setCell]; omega)
  · intro z hz
    rcases List.mem_append.1 hz with h | h
    · obtain ⟨h1, h2, h3⟩ := hl z h
      exact ⟨by simp [h1], h2, h3⟩
    · obtain rfl := List.mem_singleton.1 h
      exact ⟨by simp, by omega, by omega⟩
  · rw [List.nodup_append]
    refine ⟨hd, by simp, ?_⟩
    intro a ha b hb' e
    obtain rfl := List.mem_singleton.1 hb'
    subst e
    have := (hl _ ha).1
    simp [hsn] at this

set_option maxHeartbeats 1000000 in
theorem distinct_any (a : Option Addr) (n c : Nat) (zs : List Int) (a' : Option Addr) (n' c' : Nat) (zs' : List Int) (mx : Nat) (w : World)
    (hz : InBytes w a n zs) (hz' : InBytes w a' n' zs') (hn : n ≤ 1024) (hn' : n' ≤ 1024) (hmx : mx ≤ 256) :
    Calls Ybad.prog 5 #[.slice a n c, .slice a' n' c', .int .i64 mx] w fun e w' => ∃ (v : Value) (l : List Int), e = .returned v ∧ w'.ownsRow (w.heap.size + 1) 5 1 v l.length (l.map (Value.int .u8)) ∧ (∀ z ∈ l, 0 ≤ z ∧ z ≤ 255) ∧ l.Nodup ∧ l.length ≤ mx ∧ Below w.heap.size w w' := by
  obtain ⟨i0, hi, hz0, hz1, hz2⟩ := info_parts Ybad.info5
  go_enter Ybad.func5, Ybad.ntmps5
  go_wp2
  go_loopw [15] (fun i wr => ∃ k : Nat, k ≤ n' ∧ i = .int .i64 k ∧ (∃ sn, Seen wr w.heap.size sn) ∧ Below w.heap.size w wr ∧ w.heap.size < wr.heap.size) (fun i _ => n' - (intOf i).toNat)
  case atStart => exact ⟨0, Nat.zero_le _, rfl, ⟨_, Seen.start w⟩, (Below.refl _ _).alloc (Nat.le_refl _) _, by simp⟩
  case round =>
    obtain ⟨k, hk, rfl, ⟨sn, hs⟩, hb, hsz⟩ := hrel
    by_cases hlt : k < n'
    · obtain ⟨b, off, ha, hbl, hc⟩ := hz'.at_ (by omega)
      have hck := (hb.cell (p := ⟨b, off + k, none⟩) hbl).trans (hc k hlt)
      have hbd := hz'.bd k
      obtain ⟨z, hzk⟩ : ∃ z, zs'[k]?.getD 0 = z := ⟨_, rfl⟩
      rw [hzk] at hck hbd
      obtain ⟨zn, rfl⟩ : ∃ zn : Nat, z = zn := ⟨z.toNat, by omega⟩
      have h1 := (hs zn (by omega)).1
      have h2 := (hs zn (by omega)).2
      have R := hs.set zn
      subst ha
      clear hzk hs hc
      go_wp2
      go_roundw
      case rel => exact ⟨k + 1, by omega, by go_num, ⟨_, R⟩, hb.setCell (Nat.le_refl _) _, by simpa [World.setCell] using hsz⟩
      case measure => simp [intOf]; omega
    · go_wp2
      go_loopw [10, 24] (fun v i wr => ∃ (k : Nat) (l : List Int), k ≤ n ∧ l.length ≤ k ∧ l.length ≤ mx ∧ i = .int .i64 k ∧ wr.ownsRow (w.heap.size + 1) 5 1 v l.length (l.map (Value.int .u8)) ∧ (∃ sn, Seen wr w.heap.size sn ∧ ∀ z ∈ l, sn z.toNat = true ∧ 0 ≤ z ∧ z ≤ 255) ∧ l.Nodup ∧ Below w.heap.size w wr ∧ w.heap.size < wr.heap.size) (fun _ i _ => n - (intOf i).toNat)
      case atStart => exact ⟨0, [], Nat.zero_le _, Nat.le_refl _, Nat.zero_le _, rfl, World.ownsRow_nil _ _ _ _, ⟨sn, hs, fun _ h => by cases h⟩, List.nodup_nil, hb, hsz⟩
      case round =>
        obtain ⟨j, l, hj, hlj, hlm, rfl, hown, ⟨sn, hs, hl⟩, hd, hb, hsz⟩ := hrel
        by_cases hlt : j < n
        · obtain ⟨b, off, ha, hbl, hc⟩ := hz.at_ (by omega)
          have hck := (hb.cell (p := ⟨b, off + j, none⟩) hbl).trans (hc j hlt)
          have hbd := hz.bd j
          obtain ⟨z, hzk⟩ : ∃ z, zs[j]?.getD 0 = z := ⟨_, rfl⟩
          rw [hzk] at hck hbd
          obtain ⟨zn, rfl⟩ : ∃ zn : Nat, z = zn := ⟨z.toNat, by omega⟩
          have h1 := (hs zn (by omega)).1
          have h2 := (hs zn (by omega)).2
          subst ha
          obtain ⟨ao, cp, rfl⟩ := ownsRow_shape hown
          clear hzk hc
          have fin : ∃ (v : Value) (l' : List Int), Ending.returned (.slice ao l.length cp) = .returned v ∧ wr.ownsRow (w.heap.size + 1) 5 1 v l'.length (l'.map (Value.int .u8)) ∧ (∀ z ∈ l', 0 ≤ z ∧ z ≤ 255) ∧ l'.Nodup ∧ l'.length ≤ mx ∧ Below w.heap.size w wr := ⟨_, l, rfl, hown, fun z hz => (hl z hz).2, hd, hlm, hb⟩
          have F := hide fin
          clear fin
          by_cases hm : mx ≤ l.length
          · clear hl hs h1 h2
            go_wp2
            go_ret
            exact unhide F
          · cases hsn : sn zn
            · have R := fun w1 => distinct_step (w := w) (wr := wr) (w1 := w1) (v := .slice ao l.length cp) (l := l) (sn := sn) (zn := zn) (by omega) hs hsn hl hd hb hsz hown
              have HR := hide R
              clear R hl hs
              rw [hsn] at h1
              have hown2 := ownsRow_setCell_below hown (a := ⟨w.heap.size, zn, none⟩) (by simp) (.bool true)
              go_wp2_with (at_builtin; refine wpList_append_own _ rfl _ _ 22 rfl (w.heap.size + 1) 5 i0 (.int .u8 0) 1 1 Ybad.underlying22 hi hz0 hz1 hz2 rfl (by decide) _ _ _ rfl (hown2.alloc _) ⟨wr.heap.size, 0, none⟩ 1 1 [.int .u8 (zn : Int)] rfl rfl ?c1 ?c2 ?c3 ?c4 ?c5 ?_)
              case c1 =>
                have h := cell_one_new (wr.setCell ⟨w.heap.size, zn, none⟩ (.bool true)) (.int .u8 (zn : Int)) 5
                simpa [World.setCell] using h
              case c2 => intro u hu; simp at hu; subst hu; rfl
              case c3 => unfold maxLen; omega
              case c4 => omega
              case c5 => simp [World.setCell]; omega
              intro v' w1 hown' hgrow _
              have R := unhide HR w1 hgrow
              have OWN : Hid (w1.ownsRow (w.heap.size + 1) 5 1 v' (l ++ [(zn : Int)]).length ((l ++ [(zn : Int)]).map (Value.int .u8))) := by
                show w1.ownsRow _ _ _ _ _ _
                simpa using hown'
              clear hown' hgrow HR hown2 hown
              go_wp2
              go_roundw
              case rel => exact ⟨j + 1, l ++ [(zn : Int)], by omega, by simp; omega, by simp; omega, by go_num, OWN.out, R.1, R.2.1, R.2.2.1, R.2.2.2⟩
              case measure => simp [intOf]; omega
            · rw [hsn] at h1
              go_wp2
              go_roundw
              case rel => exact ⟨j + 1, l, by omega, by omega, hlm, by go_num, hown, ⟨sn, hs, hl⟩, hd, hb, hsz⟩
              case measure => simp [intOf]; omega
        · obtain ⟨ao, cp, rfl⟩ := ownsRow_shape hown
          go_wp2
          go_ret
          exact ⟨_, l, rfl, hown, fun z hz => (hl z hz).2, hd, hlm, hb⟩

end Go.Proofs.YbulkagdqDoor

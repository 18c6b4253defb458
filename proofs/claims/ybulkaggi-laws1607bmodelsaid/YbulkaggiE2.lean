import Derived.Test.YbulkaggiE1
namespace Go.Proofs.Ybulkaggi
open Go.RowKit Go.Sort
set_option linter.unusedVariables false
set_option maxRecDepth 100000

abbrev H := Int × Int × ByteArray
def encH (x : H) : List Value := [.int .i64 x.1, .int .i64 x.2.1, .string x.2.2]
def flatH (l : List H) : List Value := l.flatMap encH

theorem flatH_append (l l' : List H) : flatH (l ++ l') = flatH l ++ flatH l' := by simp [flatH]
theorem flatH_length (l : List H) : (flatH l).length = l.length * 3 := by
  induction l with
  | nil => rfl
  | cons x l ih => simp only [flatH, List.flatMap_cons, List.length_append, List.length_cons] at *; rw [ih]; simp [encH]; omega
theorem flatH_get (l : List H) (i : Nat) (hi : i < l.length) (j : Nat) (hj : j < 3) : (flatH l)[i * 3 + j]? = (encH l[i])[j]? := by
  induction l generalizing i with
  | nil => simp at hi
  | cons x l ih =>
    cases i with
    | zero =>
      simp only [flatH, List.flatMap_cons, Nat.zero_mul, Nat.zero_add, List.getElem_cons_zero]
      rw [List.getElem?_append_left (by simp [encH]; omega)]
    | succ i =>
      have hi' : i < l.length := by simpa using hi
      have h := ih i hi'
      simp only [flatH, List.flatMap_cons, List.getElem_cons_succ] at *
      rw [List.getElem?_append_right (by simp [encH]; omega), ← h]
      congr 1
      simp [encH]; omega

/-- A slice of halves that came in. -/
structure InH (w : World) (a : Option Addr) (n : Nat) (l : List H) : Prop where
  len : l.length = n
  at_ : 0 < n → ∃ b off, a = some ⟨b, off, none⟩ ∧ b < w.heap.size ∧ ∀ i (hi : i < l.length), w.cell? ⟨b, off + i * 3, none⟩ = some (.int .i64 l[i].1) ∧ w.cell? ⟨b, off + i * 3 + 1, none⟩ = some (.int .i64 l[i].2.1) ∧ w.cell? ⟨b, off + i * 3 + 2, none⟩ = some (.string l[i].2.2)

theorem info74 : (Yba.prog.info? 74).map (fun i => (i.zero, i.size, i.bytes)) = some (some (.agg #[.int .i64 0, .int .i64 0, .string { data := #[] }]), 3, 32) := by kernel_rfl
theorem info_at {P : Program} {t : TypeId} {z : Value} {s b : Nat} (h : (P.info? t).map (fun i => (i.zero, i.size, i.bytes)) = some (some z, s, b)) : ∃ i, P.info? t = some i ∧ i.zero = some z ∧ i.size = s ∧ i.bytes = b := by
  obtain ⟨i, h1, h2⟩ := Option.map_eq_some_iff.1 h
  simp only [Prod.mk.injEq] at h2
  exact ⟨i, h1, h2.1, h2.2.1, h2.2.2⟩
theorem own_shape {w : World} {base : Nat} {e : TypeId} {size : Nat} {v : Value} {n : Nat} {xs : List Value} (h : w.ownsRow base e size v n xs) : ∃ a c, v = .slice a n c := by
  rcases h.2 with ⟨rfl, rfl⟩ | ⟨g, cap, cur, rfl, _⟩
  · exact ⟨_, _, rfl⟩
  · exact ⟨_, _, rfl⟩
theorem own_some {w : World} {base : Nat} {e : TypeId} {size : Nat} {v : Value} {n : Nat} {xs : List Value} (h : w.ownsRow base e size v n xs) (hn : 0 < n) : ∃ g c, v = .slice (some ⟨g, 0, none⟩) n c := by
  rcases h.2 with ⟨_, h0⟩ | ⟨g, cap, cur, rfl, _⟩
  · omega
  · exact ⟨_, _, rfl⟩
theorem news_at (w : World) (cs : Array Value) (t : TypeId) : ∀ j u, cs.toList[j]? = some u → (w.alloc (.cells cs t)).cell? ((⟨w.heap.size, 0, none⟩ : Addr).add j) = some u := by
  intro j u h
  have e : (⟨w.heap.size, 0, none⟩ : Addr).add j = ⟨w.heap.size, j, none⟩ := by unfold Addr.add; split <;> simp_all
  rw [e, cell_at (heap_alloc_new w _)]
  simpa using h

set_option maxHeartbeats 1000000 in
theorem conv_any (a : Option Addr) (n c : Nat) (l : List H) (w : World) (hn : n ≤ 256) (hl : InH w a n l) :
    Calls Yba.prog 8 #[.slice a n c] w fun e w' => ∃ g cp, e = .returned (.slice (some ⟨g, 0, none⟩) n cp) ∧ w'.ownsRow w.heap.size 74 3 (.slice (some ⟨g, 0, none⟩) n cp) n (flatH l) ∧ Below w.heap.size w w' := by
  obtain ⟨i0, hi, hz0, hz1, hz2⟩ := info_at info74
  go_enter Yba.func8, Yba.ntmps8
  go_wp2_with (at_make; refine wpList_make_own _ rfl _ _ 25 rfl w.heap.size 74 i0 _ 3 Yba.underlying25 hi hz0 hz1 .i64 .i64 _ n rfl rfl (by omega) (by rw [hz2]; omega) (by unfold maxLen; omega) (Nat.le_refl _) ?_)
  intro w1 hown hg
  go_wp2
  go_loopw [3, 11] (fun v q wr => ∃ (k g cp : Nat), k ≤ n ∧ v = .slice (some ⟨g, 0, none⟩) k cp ∧ q = .int .i64 k ∧ wr.ownsRow w.heap.size 74 3 v k (flatH (l.take k)) ∧ Below w.heap.size w wr) (fun _ q _ => n - (intOf q).toNat)
  case atStart => exact ⟨0, _, _, Nat.zero_le _, rfl, rfl, hown, (Below.refl _ _).grown hg (Nat.le_refl _) (fun _ h => by cases h)⟩
  case round =>
    obtain ⟨k, ao, cp, hk, rfl, rfl, how, hbl⟩ := hrel
    have hsz := hbl.size
    have hll := hl.len
    by_cases hlt : k < n
    · obtain ⟨b, off, ha, hb, hrc⟩ := hl.at_ (by omega)
      subst ha
      obtain ⟨q0, q1, q2⟩ := hrc k (by omega)
      replace q0 := (hbl.cell (p := ⟨b, off + k * 3, none⟩) hb).trans q0
      replace q1 := (hbl.cell (p := ⟨b, off + k * 3 + 1, none⟩) hb).trans q1
      replace q2 := (hbl.cell (p := ⟨b, off + k * 3 + 2, none⟩) hb).trans q2
      have W : Hid (l.take (k + 1) = l.take k ++ [l[k]'(by omega)]) := List.take_succ_eq_append_getElem (by omega)
      obtain ⟨⟨x, y, s⟩, hxe⟩ : ∃ r, l[k]'(by omega) = r := ⟨_, rfl⟩
      rw [hxe] at q0 q1 q2 W
      simp only [] at q0 q1 q2
      clear hrc hxe hg hown hl
      generalize l.take k = l1 at *
      have hlt' : (k : Int) < (n : Int) := by omega
      go_wp2_with (at_builtin; refine wpList_append_own _ rfl _ _ 25 rfl w.heap.size 74 i0 _ 3 32 Yba.underlying25 hi hz0 hz1 hz2 rfl (by decide) _ _ _ rfl ((how.alloc _).alloc _) ⟨wr.heap.size + 1, 0, none⟩ 1 1 [.int .i64 x, .int .i64 y, .string s] rfl rfl ?c1 ?c2 ?c3 ?c4 ?c5 ?_)
      case c1 => have h := news_at (wr.alloc (.cells #[.int .i64 x, .int .i64 y, .string s] 28)) #[.int .i64 x, .int .i64 y, .string s] 74; simpa using h
      case c2 => intro u hu; simp at hu; rcases hu with rfl | rfl | rfl <;> rfl
      case c3 => unfold maxLen; omega
      case c4 => omega
      case c5 => simp; omega
      intro v' w2 ho2 hg2 _
      have OWN : Hid (w2.ownsRow w.heap.size 74 3 v' (k + 1) (flatH (l.take (k + 1)))) := by
        show w2.ownsRow _ _ _ _ _ _
        rw [W.out, flatH_append]
        exact ho2
      obtain ⟨g', cp', rfl⟩ := own_some ho2 (by omega)
      have HB : Hid (Below w.heap.size w w2) := ((hbl.alloc hsz _).alloc (by simp; omega) _).grown hg2 (by simp; omega) (fun x hx => (how.lt x hx).1)
      clear ho2 hg2 how
      go_wp2
      go_roundw
      case rel => exact ⟨k + 1, _, _, by omega, rfl, by go_num, OWN.out, HB.out⟩
      case measure => simp [intOf]; omega
    · obtain rfl : n = k := by omega
      have hlt' : ¬ ((n : Int) < (n : Int)) := by omega
      have HO := hide how
      clear how
      go_wp2
      go_ret
      refine ⟨_, _, rfl, ?_, hbl⟩
      have h := unhide HO
      rwa [List.take_of_length_le (by omega)] at h

end Go.Proofs.Ybulkaggi

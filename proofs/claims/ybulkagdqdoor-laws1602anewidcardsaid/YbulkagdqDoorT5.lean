import Derived.Test.YbulkagdqDoorT4
import Derived.Deep.RegionHeld3
namespace Go.Proofs.YbulkagdqDoor
open Go.RowKit

/-- A slice of entries that can be read, the ids with them. -/
def EntsAt (w : World) (a : Option Addr) (l : List Ent) : Prop :=
  0 < l.length → ∃ b off, a = some ⟨b, off, none⟩ ∧ b < w.heap.size ∧ ∀ j (h : j < l.length), EntAt w b (off + j * 6) l[j] ∧ IdAt w l[j].blk l[j].cap l[j].key
theorem EntAt.of_block {w w' : World} {b o : Nat} {r : Ent} (h : EntAt w b o r) (hb : w'.heap[b]? = w.heap[b]?) : EntAt w' b o r :=
  have f : ∀ o, w'.cell? ⟨b, o, none⟩ = w.cell? ⟨b, o, none⟩ := fun o => World.cell?_of_block (w := w) (a := ⟨b, o, none⟩) hb
  ⟨(f _).trans h.c0, (f _).trans h.c1, (f _).trans h.c2, (f _).trans h.c3, (f _).trans h.c4, (f _).trans h.c5⟩

set_option maxRecDepth 100000 in
set_option maxHeartbeats 1000000 in
theorem same_any (a a' : Option Addr) (n c c' : Nat) (es : List Ent) (l : List Rec) (w : World) (hn2 : n ≤ 2000) (hl : l.length = n) (hel : es.map Ent.toRec = l) (hok : ∀ r ∈ l, 0 ≤ r.n ∧ r.n < 1000000000)
    (he : EntsAt w a es) (hr : RecsAt w a' l) :
    Calls Ybad.prog 13 #[.slice a n c, .slice a' n c'] w fun e w' => e = .returned (.bool true) ∧ Below w.heap.size w w' := by
  have helen : es.length = n := by rw [← hl, ← hel]; simp
  have hnn : ((n : Int) != n) = false := by simp
  go_enter Ybad.func13, Ybad.ntmps13
  go_wp2
  go_loopw [15] (fun i wr => ∃ (k : Nat), k ≤ n ∧ i = .int .i64 k ∧ Below w.heap.size w wr) (fun i _ => n - (intOf i).toNat)
  case atStart => exact ⟨0, Nat.zero_le _, rfl, Below.refl _ _⟩
  case round =>
    obtain ⟨k, hk, rfl, hbl⟩ := hrel
    by_cases hlt : k < n
    · obtain ⟨b, off, ha, hb, hec⟩ := he (by omega)
      obtain ⟨b', off', ha', hb', hrc⟩ := hr (by omega)
      subst ha; subst ha'
      have q := (hrc k (by omega)).of_block (hbl.block b' hb')
      obtain ⟨e, hee⟩ : ∃ e, es[k]'(by omega) = e := ⟨_, rfl⟩
      have p := (hec k (by omega)).1.of_block (hbl.block b hb)
      have i1 := (hec k (by omega)).2
      have i2 := i1.of_block (hbl.block _ i1.lt)
      have ilt := i2.lt
      have i3 := i2.cell
      have hle : l[k]'(by omega) = e.toRec := by subst hel; simp [← hee]
      rw [hle] at q
      rw [hee] at p i3 ilt
      have hn := hok (l[k]'(by omega)) (List.getElem_mem _)
      rw [hle] at hn
      obtain ⟨q0, q1, q2, q3, q4⟩ := q
      obtain ⟨p0, p1, p2, p3, p4, p5⟩ := p
      simp only [Ent.toRec] at q0 q1 q2 q3 q4 hn
      obtain ⟨hn1, hn3⟩ := hn
      have hbw : b < wr.heap.size := by have := hbl.size; omega
      have hbw' : b' < wr.heap.size := by have := hbl.size; omega
      clear i1 i2 hle hec hrc hee he hr
      have i4 : ∀ o1 o2 o3 o4, ((((wr.alloc o1).alloc o2).alloc o3).alloc o4).cell? ⟨e.blk, 0, none⟩ = some (.int .u8 e.key) := by
        intro o1 o2 o3 o4
        rw [World.cell?_alloc_past _ _ _ (by simp; omega), World.cell?_alloc_past _ _ _ (by simp; omega), World.cell?_alloc_past _ _ _ (by simp; omega), World.cell?_alloc_past _ _ _ ilt]
        exact i3
      have k1 : ((e.key : Int) != e.key) = false := by simp
      have k2 : (e.clk != e.clk) = false := by simp
      go_wp2
      go_region_held3 (fun w' => w'.cell? ⟨wr.heap.size, 0, none⟩ = some (.int .u8 e.key) ∧ w'.cell? ⟨wr.heap.size, 1, none⟩ = some (.int .u64 e.clk) ∧ w'.cell? ⟨wr.heap.size, 2, none⟩ = some (.int .u64 e.n) ∧ w'.cell? ⟨wr.heap.size, 3, none⟩ = some (.int .i64 e.s) ∧ w'.cell? ⟨wr.heap.size, 4, none⟩ = some (.pointer none)
          ∧ w'.cell? ⟨wr.heap.size + 1, 0, none⟩ = some (.slice (some ⟨e.blk, 0, none⟩) 1 e.cap) ∧ w'.cell? ⟨wr.heap.size + 1, 1, none⟩ = some (.int .u64 e.clk) ∧ w'.cell? ⟨wr.heap.size + 1, 3, none⟩ = some (.int .u64 e.n) ∧ w'.cell? ⟨wr.heap.size + 1, 4, none⟩ = some (.int .i64 e.s) ∧ w'.cell? ⟨wr.heap.size + 1, 5, none⟩ = some (.pointer none) ∧ w'.cell? ⟨e.blk, 0, none⟩ = some (.int .u8 e.key)) (go_keep)
        ((go_at_call 30; refine (equal_same _ _ _ hn1 hn3).mono ?_; rintro e w' ⟨rfl, rfl⟩))
      go_wp2
      go_roundw
      case rel => exact ⟨k + 1, by omega, by go_num, ((((hbl.alloc (by have := hbl.size; omega) _).alloc (by have := hbl.size; simp; omega) _).alloc (by have := hbl.size; simp; omega) _).alloc (by have := hbl.size; simp; omega) _).drew⟩
      case measure => simp [intOf]; omega
    · go_wp2
      go_ret
      exact ⟨rfl, hbl⟩

end Go.Proofs.YbulkagdqDoor

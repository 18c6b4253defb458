import Derived.Test.YbulkagdqDoorU3
import Derived.LaidEql
import Derived.Stop.Asserts
import Derived.RowKitTokens
namespace Go.Proofs.YbulkagdqDoor
open Go.RowKit Go.Extern.Stop Go.Stop Go.Extern
set_option linter.unusedVariables false

theorem Ybad.valueOf27 (t : Addr) (w : World) : (ReflectliteValue.unpack (.iface 101 (.pointer (some t)))).run Ybad.prog w
    = .ok (.agg #[.pointer (some ⟨2, 101, none⟩), .pointer (some ⟨w.heap.size, 0, none⟩), .int .u64 150]) (w.alloc (.cells #[.pointer (some t)] 101)) := by kernel_rfl
theorem Ybad.type27 (a : Addr) (w : World) : (ReflectliteValue.methodAny (ReflectliteValue.valueError "reflectlite.Value.Type" 0) (fun t _ _ _ => ReflectliteType.toType t) #[.agg #[.pointer (some ⟨2, 101, none⟩), .pointer (some a), .int .u64 150]]).run Ybad.prog w
    = .ok (.iface 129 (.agg #[.pointer (some ⟨2, 101, none⟩)])) w := by kernel_rfl
theorem Ybad.methodKind (h : Value) (w : World) : (Go.method 298 129 (.agg #[h]) "Kind").run Ybad.prog w = .ok (58, h) w := by kernel_rfl
theorem Ybad.kind27 (w : World) : ((ReflectliteType.abiMethod fun t => (fun a : Nat => Value.int IntKind.u8 (a : Int)) <$> Rtype.kind t) #[.pointer (some ⟨2, 101, none⟩)]).run Ybad.prog w = .ok (.int .u8 22) w := by kernel_rfl
theorem Ybad.kind25 (w : World) : ((ReflectliteType.abiMethod fun t => (fun a : Nat => Value.int IntKind.u8 (a : Int)) <$> Rtype.kind t) #[.pointer (some ⟨2, 99, none⟩)]).run Ybad.prog w = .ok (.int .u8 22) w := by kernel_rfl

theorem rlm (z : Sem Value) (f : TypeId → Addr → Nat → Nat → Sem Value) (v : Value) :
    ReflectliteValue.method z f #[v] = (do match ← ReflectliteValue.parts v with | none => z | some (t, a, fl) => f t a fl (fl % 32)) := rfl
theorem Ybad.parts27 (a : Addr) (w : World) : (ReflectliteValue.parts (.agg #[.pointer (some ⟨2, 101, none⟩), .pointer (some a), .int .u64 150])).run Ybad.prog w = .ok (some (101, a, 150)) w := by kernel_rfl
theorem Ybad.isNil27 (a p : Addr) (W : World) (ha : W.cell? a = some (.pointer (some p))) :
    (ReflectliteValue.method (ReflectliteValue.valueError "reflectlite.Value.IsNil" 0) ReflectliteValue.isNil #[.agg #[.pointer (some ⟨2, 101, none⟩), .pointer (some a), .int .u64 150]]).run Ybad.prog W = .ok (.bool false) W := by
  rw [rlm]
  simp only [Sem.run_bind, Ybad.parts27, Result.andThen]
  simp [ReflectliteValue.isNil, loadVar, isAgg, underlying, Ybad.underlying101, ha, Result.andThen]

theorem Ybad.methodElem (h : Value) (w : World) : (Go.method 298 129 (.agg #[h]) "Elem").run Ybad.prog w = .ok (76, .agg #[h]) w := by kernel_rfl
theorem Ybad.methodImplements (h : Value) (w : World) : (Go.method 298 129 (.agg #[h]) "Implements").run Ybad.prog w = .ok (77, .agg #[h]) w := by kernel_rfl
theorem Ybad.methodAssignableTo (h : Value) (w : World) : (Go.method 298 129 (.agg #[h]) "AssignableTo").run Ybad.prog w = .ok (74, .agg #[h]) w := by kernel_rfl
theorem Ybad.elem27 (w : World) : (ReflectliteType.method ReflectliteType.elem #[.agg #[.pointer (some ⟨2, 101, none⟩)]]).run Ybad.prog w = .ok (.iface 129 (.agg #[.pointer (some ⟨2, 99, none⟩)])) w := by kernel_rfl
theorem Ybad.implements25 (w : World) : (ReflectliteType.relation "Implements" ReflectliteType.implements_ #[.agg #[.pointer (some ⟨2, 99, none⟩)], .iface 129 (.agg #[.pointer (some ⟨2, 77, none⟩)])]).run Ybad.prog w = .ok (.bool true) w := by kernel_rfl
theorem Ybad.typeOf25 (v : Value) (w : World) : (ReflectliteType.typeOf #[.iface 99 v]).run Ybad.prog w = .ok (.iface 129 (.agg #[.pointer (some ⟨2, 99, none⟩)])) w := by kernel_rfl
theorem Ybad.assignable25 (w : World) : (ReflectliteType.relation "AssignableTo" ReflectliteType.assignableTo #[.agg #[.pointer (some ⟨2, 99, none⟩)], .iface 129 (.agg #[.pointer (some ⟨2, 99, none⟩)])]).run Ybad.prog w = .ok (.bool true) w := by kernel_rfl
theorem Ybad.valueOf25 (e : Addr) (w : World) : (ReflectliteValue.unpack (.iface 99 (.pointer (some e)))).run Ybad.prog w
    = .ok (.agg #[.pointer (some ⟨2, 99, none⟩), .pointer (some ⟨w.heap.size, 0, none⟩), .int .u64 150]) (w.alloc (.cells #[.pointer (some e)] 99)) := by kernel_rfl

theorem Ybad.elemOf27 (w : World) : (Rtype.elem? 101).run Ybad.prog w = .ok (some 99) w := by kernel_rfl
theorem Ybad.mk25 (p : Addr) (w : World) : (ReflectliteValue.mk 99 p ReflectliteValue.flagAddr).run Ybad.prog w = .ok (.agg #[.pointer (some ⟨2, 99, none⟩), .pointer (some p), .int .u64 406]) w := by kernel_rfl
theorem Ybad.elemV27 (a p : Addr) (W : World) (ha : W.cell? a = some (.pointer (some p))) :
    (ReflectliteValue.method (ReflectliteValue.valueError "reflectlite.Value.Elem" 0) ReflectliteValue.elem #[.agg #[.pointer (some ⟨2, 101, none⟩), .pointer (some a), .int .u64 150]]).run Ybad.prog W
      = .ok (.agg #[.pointer (some ⟨2, 99, none⟩), .pointer (some p), .int .u64 406]) W := by
  rw [rlm]
  simp only [Sem.run_bind, Ybad.parts27, Result.andThen]
  simp [ReflectliteValue.elem, loadVar, isAgg, underlying, Ybad.underlying101, ha, Result.andThen, Ybad.elemOf27, Ybad.mk25]
set_option maxHeartbeats 2000000 in
theorem rls (v x : Value) : ∃ (s1 s2 s3 : Unsupported) (pz : String → String → Sem Unit), ReflectliteValue.set #[v, x] = (do
    let (some (dst, a, fl), some (src, b, _)) := (← ReflectliteValue.parts v, ← ReflectliteValue.parts x)
      | unsupported s1
    if fl / ReflectliteValue.flagAddr % 2 == 0 then unsupported s2
    let val ← loadVar src b
    if ← Rtype.directlyAssignable dst src then storeVar dst a val
    else if ← Rtype.implements dst src then
      if (← Rtype.kind src) == 20 then
        match val with
        | .nilIface => unsupported s3
        | _ => storeVar dst a val
      else storeVar dst a (.iface src val)
    else pz (← Rtype.spelt src) (← Rtype.spelt dst)
    pure (.tuple #[])) := ⟨_, _, _, _, rfl⟩
theorem Ybad.parts25a (a : Addr) (w : World) : (ReflectliteValue.parts (.agg #[.pointer (some ⟨2, 99, none⟩), .pointer (some a), .int .u64 406])).run Ybad.prog w = .ok (some (99, a, 406)) w := by kernel_rfl
theorem Ybad.parts25 (a : Addr) (w : World) : (ReflectliteValue.parts (.agg #[.pointer (some ⟨2, 99, none⟩), .pointer (some a), .int .u64 150])).run Ybad.prog w = .ok (some (99, a, 150)) w := by kernel_rfl
theorem Ybad.direct25 (w : World) : (Rtype.directlyAssignable 99 99).run Ybad.prog w = .ok true w := by kernel_rfl
theorem Ybad.size25 (w : World) : (sizeOf 99).run Ybad.prog w = .ok 1 w := by kernel_rfl
theorem Ybad.set25 (ta b e : Addr) (old : Value) (W : World) (hb : W.cell? b = some (.pointer (some e))) (ht : W.cell? ta = some old) (hf : W.frozen? ta = false) :
    (ReflectliteValue.set #[.agg #[.pointer (some ⟨2, 99, none⟩), .pointer (some ta), .int .u64 406], .agg #[.pointer (some ⟨2, 99, none⟩), .pointer (some b), .int .u64 150]]).run Ybad.prog W
      = .ok (.tuple #[]) (W.setCell ta (.pointer (some e))) := by
  obtain ⟨s1, s2, s3, pz, hr⟩ := rls (.agg #[.pointer (some ⟨2, 99, none⟩), .pointer (some ta), .int .u64 406]) (.agg #[.pointer (some ⟨2, 99, none⟩), .pointer (some b), .int .u64 150])
  rw [hr]
  simp only [Sem.run_bind, Ybad.parts25a, Ybad.parts25, Result.andThen]
  simp [ReflectliteValue.flagAddr, loadVar, isAgg, underlying, Ybad.underlying99, hb, Result.andThen, Ybad.direct25, storeVar, Value.cells, storeCells, Addr.add]
  rw [run_store Ybad.prog W ta _ _ (by rfl)]
  simp [ht, hf]

set_option maxHeartbeats 4000000 in
theorem as_hit (e t : Addr) (old : Value) (w : World) (hg : w.cell? ⟨1, 0, none⟩ = some (.iface 129 (.agg #[.pointer (some ⟨2, 77, none⟩)]))) (ht0 : w.cell? t = some old) (hf0 : w.frozen? t = false) :
    Calls Ybad.prog 29 #[.iface 99 (.pointer (some e)), .iface 101 (.pointer (some t))] w fun ev w' => ev = .returned (.bool true) ∧ w' = ((((w.alloc (.cells #[.pointer (some t)] 101)).alloc (.cells #[.pointer (some ⟨2, 101, none⟩), .pointer (some ⟨w.heap.size, 0, none⟩), .int .u64 150] 118)).alloc (.cells #[.pointer (some ⟨2, 101, none⟩), .pointer (some ⟨w.heap.size, 0, none⟩), .int .u64 150] 118)).alloc (.cells #[.pointer (some e)] 99)).setCell t (.pointer (some e)) := by
  have h6 := @run_callFunc_extern Ybad.prog 37 _ (fun args => ReflectliteValue.unpack (args.getD 0 (.tuple #[]))) Ybad.func37 (by kernel_rfl) (by kernel_rfl) (by kernel_rfl) (by kernel_rfl)
  have h7 := @run_callFunc_extern Ybad.prog 38 _ (ReflectliteValue.methodAny (ReflectliteValue.valueError "reflectlite.Value.Type" 0) (fun t _ _ _ => ReflectliteType.toType t)) Ybad.func38 (by kernel_rfl) (by kernel_rfl) (by kernel_rfl) (by kernel_rfl)
  have h8 := @run_callFunc_extern Ybad.prog 39 _ (ReflectliteValue.method (ReflectliteValue.valueError "reflectlite.Value.IsNil" 0) ReflectliteValue.isNil) Ybad.func39 (by kernel_rfl) (by kernel_rfl) (by kernel_rfl) (by kernel_rfl)
  have h27 := @run_callFunc_extern Ybad.prog 58 _ (ReflectliteType.abiMethod fun t => do pure (.int .u8 (← Rtype.kind t))) Ybad.func58 (by kernel_rfl) (by kernel_rfl) (by kernel_rfl) (by kernel_rfl)
  have h37 := @run_callFunc_extern Ybad.prog 76 _ (ReflectliteType.method ReflectliteType.elem) Ybad.func76 (by kernel_rfl) (by kernel_rfl) (by kernel_rfl) (by kernel_rfl)
  have h38 := @run_callFunc_extern Ybad.prog 77 _ (ReflectliteType.relation "Implements" ReflectliteType.implements_) Ybad.func77 (by kernel_rfl) (by kernel_rfl) (by kernel_rfl) (by kernel_rfl)
  have h10 := @run_callFunc_extern Ybad.prog 41 _ ReflectliteType.typeOf Ybad.func41 (by kernel_rfl) (by kernel_rfl) (by kernel_rfl) (by kernel_rfl)
  have h35 := @run_callFunc_extern Ybad.prog 74 _ (ReflectliteType.relation "AssignableTo" ReflectliteType.assignableTo) Ybad.func74 (by kernel_rfl) (by kernel_rfl) (by kernel_rfl) (by kernel_rfl)
  have h11 := @run_callFunc_extern Ybad.prog 42 _ (ReflectliteValue.method (ReflectliteValue.valueError "reflectlite.Value.Elem" 0) ReflectliteValue.elem) Ybad.func42 (by kernel_rfl) (by kernel_rfl) (by kernel_rfl) (by kernel_rfl)
  have h12 := @run_callFunc_extern Ybad.prog 43 _ ReflectliteValue.set Ybad.func43 (by kernel_rfl) (by kernel_rfl) (by kernel_rfl) (by kernel_rfl)
  have tO := Ybad.typeOf25
  have mA := Ybad.methodAssignableTo
  have a25 := Ybad.assignable25
  have v25 := Ybad.valueOf25
  have f6 := Ybad.valueOf27
  have f7 := Ybad.type27
  have mK := Ybad.methodKind
  have mE := Ybad.methodElem
  have mI := Ybad.methodImplements
  have k27 := Ybad.kind27
  have k25 := Ybad.kind25
  have e27 := Ybad.elem27
  have i25 := Ybad.implements25
  have n8 := Ybad.isNil27 ⟨w.heap.size, 0, none⟩ t ((w.alloc (.cells #[.pointer (some t)] 101)).alloc (.cells #[.pointer (some ⟨2, 101, none⟩), .pointer (some ⟨w.heap.size, 0, none⟩), .int .u64 150] 118)) (by simp)
  have hlt : 1 < w.heap.size := lt_of_cell hg
  have hg2 : ((w.alloc (.cells #[.pointer (some t)] 101)).alloc (.cells #[.pointer (some ⟨2, 101, none⟩), .pointer (some ⟨w.heap.size, 0, none⟩), .int .u64 150] 118)).cell? ⟨1, 0, none⟩ = some (.iface 129 (.agg #[.pointer (some ⟨2, 77, none⟩)])) := by
    rw [World.cell?_alloc_lt _ _ ⟨1, 0, none⟩ (by simp; omega), World.cell?_alloc_lt _ _ ⟨1, 0, none⟩ hlt]; exact hg
  have htl : t.block < w.heap.size := by
    rcases Nat.lt_or_ge t.block w.heap.size with h | h
    · exact h
    · simp [World.cell?, Array.getElem?_eq_none h] at ht0
  have el := Ybad.elemV27 ⟨w.heap.size, 0, none⟩ t (((w.alloc (.cells #[.pointer (some t)] 101)).alloc (.cells #[.pointer (some ⟨2, 101, none⟩), .pointer (some ⟨w.heap.size, 0, none⟩), .int .u64 150] 118)).alloc (.cells #[.pointer (some ⟨2, 101, none⟩), .pointer (some ⟨w.heap.size, 0, none⟩), .int .u64 150] 118)) (by rw [World.cell?_alloc_lt _ _ ⟨w.heap.size, 0, none⟩ (by simp; omega)]; simp)
  have st := Ybad.set25 t ⟨w.heap.size + 1 + 1 + 1, 0, none⟩ e old ((((w.alloc (.cells #[.pointer (some t)] 101)).alloc (.cells #[.pointer (some ⟨2, 101, none⟩), .pointer (some ⟨w.heap.size, 0, none⟩), .int .u64 150] 118)).alloc (.cells #[.pointer (some ⟨2, 101, none⟩), .pointer (some ⟨w.heap.size, 0, none⟩), .int .u64 150] 118)).alloc (.cells #[.pointer (some e)] 99))
    (by rw [World.cell?_alloc_at _ _ _ _ (by simp)]; rfl)
    (by rw [World.cell?_alloc_lt _ _ t (by simp; omega), World.cell?_alloc_lt _ _ t (by simp; omega), World.cell?_alloc_lt _ _ t (by simp; omega), World.cell?_alloc_lt _ _ t htl]; exact ht0)
    (by rw [World.frozen?_alloc_old _ _ t (by simp; omega), World.frozen?_alloc_old _ _ t (by simp; omega), World.frozen?_alloc_old _ _ t (by simp; omega), World.frozen?_alloc_old _ _ t (Nat.ne_of_lt htl)]; exact hf0)
  go_enter Ybad.func29, Ybad.ntmps29
  go_wp2
  refine wp_loop_rounds 1 ?_
  rw [rounds_succ]
  go_wp2
  go_ret
  exact ⟨rfl, rfl⟩

end Go.Proofs.YbulkagdqDoor

import Derived.Test.YbulkagfuFmtF1
import Derived.Stop.CallBack
import Derived.Stop.IfaceNil
import GoSem.ClaimData
import Derived.Maps.OwnSet
import Derived.Maps.OwnOps
import Derived.Maps.RangeWalk
import Derived.Deep.RegionHeld3
import Derived.Deep.DeepCutAuto
import Derived.Below
namespace Go.Proofs.YbulkagfuFmt
open Go.RowKit Go.WideMaps Go.Maps Go.Extern.Stop Go.Stop Go.Extern
set_option linter.unusedVariables false
set_option maxRecDepth 100000

theorem hide {p : Prop} (h : p) : Hid p := h
theorem unhide {p : Prop} (h : Hid p) : p := h
theorem lawS : Keyed Ybaf.prog 9 := string_keyed Ybaf.underlying9
theorem zero3 (w : World) : (zeroValue 3).run Ybaf.prog w = .ok (.int .i64 0) w := by kernel_rfl

theorem channel_hit {H : Type} (sb mb n c : Nat) (D : DataW H) (nm : ByteArray) (w : World) (h3 : w.cell? ⟨sb, 3, none⟩ = some (.map (some mb))) (hown : w.ownsMap Ybaf.prog 9 (plainElem Ybaf.prog 3) mb n D) (hs : nm.size ≤ maxLen)
    (hat : D.atKey (.string nm.data.toList) (.lit (.int .i64 0)) = .lit (.int .i64 c)) (hh : Maps.has D (.string nm.data.toList) = true) :
    Calls Ybaf.prog 8 #[.pointer (some ⟨sb, 0, none⟩), .string nm] w fun e w' => e = .returned (.tuple #[.int .i64 c, .nilIface]) ∧ w' = w := by
  have hkey := Go.WideMaps.keyOf_string_mk Ybaf.underlying9 hs
  go_enter Ybaf.func8, Ybaf.ntmps8
  go_wp2_with (at_lookup; refine wpList_lookup_own_ok_int _ rfl _ _ 24 rfl 9 3 .i64 lawS Ybaf.underlying24 Ybaf.underlying3 (zero3 _) mb n D rfl hown _ _ rfl hkey ?_; intro c' hat' hwc')
  rw [hat] at hat'
  simp at hat'
  subst hat'
  go_wp2
  go_ret2
  exact ⟨rfl, rfl⟩

abbrev fmtS : ByteArray := ⟨#[37, 113, 32, 104, 97, 115, 32, 110, 111, 32, 105, 110, 99, 111, 109, 105, 110, 103, 32, 99, 104, 97, 110, 110, 101, 108, 32, 102, 114, 111, 109, 32, 37, 113]⟩
theorem call20 (args : Array Value) (w : World) : (callFunc 20 args).run Ybaf.prog w = ((FmtStop.errorf #[9, 66] #[51] args).run Ybaf.prog w).andThen fun v w' => .ok (.value v) w' :=
  run_callFunc_extern Ybaf.func20 (by kernel_rfl) (by kernel_rfl) (by kernel_rfl) (by kernel_rfl) args w
theorem guardF (name : String) (w : World) : (FmtStop.guard name).run Ybaf.prog w = .ok () w := by kernel_rfl
theorem fmt2 : FmtStop.printed? fmtS 2 = some [(0, 113, false), (1, 113, false)] := by kernel_rfl
theorem fmt2r (w : World) : (FmtDoors.printed fmtS 2).run Ybaf.prog w = .ok [(0, 113, false), (1, 113, false)] w := by kernel_rfl
def shape9 : List UInt8 := [12, 6, 0, 0, 0, 0, 0, 0, 0, 115, 116, 114, 105, 110, 103]
theorem op9w (name : String) (x : ByteArray) (w : World) : (FmtStop.operand name true 113 false (.iface 9 (.string x))).run Ybaf.prog w = .ok (shape9, FmtStop.pack x.data.toList) w := by kernel_rfl
theorem op9 (name : String) (x : ByteArray) (w : World) : (FmtStop.operand name false 113 false (.iface 9 (.string x))).run Ybaf.prog w = .ok (shape9, FmtStop.pack x.data.toList) w := by kernel_rfl
theorem ptr74 (w : World) : (FmtStop.ptrTo "errors.errorString").run Ybaf.prog w = .ok 74 w := by kernel_rfl
theorem elem74 (w : World) : (elemOf 74).run Ybaf.prog w = .ok 76 w := by kernel_rfl
theorem isErr74 (w : World) : (FmtDoors.textMethod 74 "Error").run Ybaf.prog w = .ok true w := by kernel_rfl

set_option maxHeartbeats 800000 in
theorem channel_miss {H : Type} (F : Interp) (sb mb n : Nat) (D : DataW H) (sf nm : ByteArray) (w : World) (hF : F.answers w.tape) (h2 : w.cell? ⟨sb, 2, none⟩ = some (.string sf)) (h3 : w.cell? ⟨sb, 3, none⟩ = some (.map (some mb))) (hown : w.ownsMap Ybaf.prog 9 (plainElem Ybaf.prog 3) mb n D) (hs : nm.size ≤ maxLen)
    (hh : Maps.has D (.string nm.data.toList) = false) :
    Calls Ybaf.prog 8 #[.pointer (some ⟨sb, 0, none⟩), .string nm] w fun e w' => ∃ t v, e = .returned (.tuple #[.int .i64 0, .iface t v]) ∧ Below w.heap.size w w' := by
  have hkey := Go.WideMaps.keyOf_string_mk Ybaf.underlying9 hs
  have hF' := answers_open hF
  have f1 := call20
  have f2 := guardF
  have f3 := fmt2
  have f4 := fmt2r
  have f5 := op9w
  have f6 := op9
  have f7 := ptr74
  have f8 := elem74
  have f9 := isErr74
  go_enter Ybaf.func8, Ybaf.ntmps8
  go_wp2_with (at_lookup; refine wpList_lookup_own_ok_int _ rfl _ _ 24 rfl 9 3 .i64 lawS Ybaf.underlying24 Ybaf.underlying3 (zero3 _) mb n D rfl hown _ _ rfl hkey ?_; intro c' hat' hwc')
  clear hat' hwc' hown
  go_wp2
  go_ret2
  exact ⟨74, _, rfl, (((Below.refl _ w).alloc (Nat.le_refl _) _).alloc (by simp) _).drew⟩

end Go.Proofs.YbulkagfuFmt

/-
  fmt's stop at this dump, and unknownMember: it hands back a new error, whatever fmt's text.
-/
import Derived.Test.Qxb6614318aFmtRows
import Derived.WalkKit
import Derived.WalkSpells
import Derived.Stop.CallBack
import Derived.Stop.IfaceNil
namespace Go.Proofs.Qxb6614318aFmt
open Go.RowKit Go.Extern.Stop Go.Stop Go.Extern

theorem st_call27 (args : Array Value) (w : World) : (callFunc 27 args).run Tryf.prog w = (FmtCalls.errorf #[9, 50] #[25] args).run Tryf.prog w :=
  run_callFunc_next Tryf.func27 (by kernel_rfl) (by kernel_rfl) (by kernel_rfl) args w
theorem st_guard (name : String) (w : World) : (FmtStop.guard name).run Tryf.prog w = .ok () w := by kernel_rfl
theorem st_nextTurns : Extern.next FmtCalls.turnsRow = some (FmtCalls.begun #[] #[]) := by kernel_rfl
theorem st_fmt0 : FmtStop.printed? ⟨#[37, 115, 32, 104, 97, 115, 32, 117, 110, 107, 110, 111, 119, 110, 32, 109, 101, 109, 98, 101, 114, 32, 37, 113]⟩ 2 = some [(0, 115, false), (1, 113, false)] := by kernel_rfl
theorem st_fmt0r (w : World) : (FmtDoors.printed ⟨#[37, 115, 32, 104, 97, 115, 32, 117, 110, 107, 110, 111, 119, 110, 32, 109, 101, 109, 98, 101, 114, 32, 37, 113]⟩ 2).run Tryf.prog w = .ok [(0, 115, false), (1, 113, false)] w := by kernel_rfl
def st_shape9 : List UInt8 := [12, 6, 0, 0, 0, 0, 0, 0, 0, 115, 116, 114, 105, 110, 103]
theorem st_act9_115w (name : String) (x : Value) (w : World) : (FmtCalls.act name true 115 false (.iface 9 x)).run Tryf.prog w = .ok (.closed true) w := by kernel_rfl
theorem st_act9_113w (name : String) (x : Value) (w : World) : (FmtCalls.act name true 113 false (.iface 9 x)).run Tryf.prog w = .ok (.closed true) w := by kernel_rfl
theorem st_op9_115w (name : String) (x : ByteArray) (w : World) : (FmtStop.operand name true 115 false (.iface 9 (.string x))).run Tryf.prog w = .ok (st_shape9, FmtStop.pack x.data.toList) w := by kernel_rfl
theorem st_op9_113w (name : String) (x : ByteArray) (w : World) : (FmtStop.operand name true 113 false (.iface 9 (.string x))).run Tryf.prog w = .ok (st_shape9, FmtStop.pack x.data.toList) w := by kernel_rfl
theorem st_ptr55 (w : World) : (FmtStop.ptrTo "errors.errorString").run Tryf.prog w = .ok 55 w := by kernel_rfl
theorem st_elem55 (w : World) : (elemOf 55).run Tryf.prog w = .ok 57 w := by kernel_rfl

attribute [local go_sem] st_call27
attribute [local go_sem] st_guard
attribute [local go_sem] st_fmt0
attribute [local go_sem] st_fmt0r
attribute [local go_sem] st_act9_115w
attribute [local go_sem] st_act9_113w
attribute [local go_sem] st_op9_115w
attribute [local go_sem] st_op9_113w
attribute [local go_sem] st_ptr55
attribute [local go_sem] st_elem55

set_option maxHeartbeats 400000 in
theorem unknownMember22 (F : Interp) (p n : ByteArray) (w : World) (hF : F.answers w.tape) :
    Calls Tryf.prog 22 #[.string p, .string n] w fun e w' => e = .returned (.iface 55 (.pointer (some ⟨w.heap.size + 1, 0, none⟩))) ∧ Below w.heap.size w w' := by
  have hF' := answers_open hF
  go_enter Tryf.func22, Tryf.ntmps22
  go_wp2
  apply rows_value st_nextTurns
  case hr =>
    go_simp
    exact ⟨rfl, rfl⟩
  case h =>
    go_wp2
    go_ret
    exact ⟨rfl, (((Below.refl _ _).alloc (Nat.le_refl _) _).alloc (by simp) _).drew⟩

end Go.Proofs.Qxb6614318aFmt

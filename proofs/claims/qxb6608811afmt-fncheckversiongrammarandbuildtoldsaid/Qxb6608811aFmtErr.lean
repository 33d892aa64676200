import Derived.Test.Qxb6608811aFmtCompare
import Derived.Stop.CallBack
import Derived.Stop.IfaceNil
import GoSem.ClaimData
namespace Go.Proofs.Qxb6608811aFmt.Err
open Go.ChangeShapes Go.WideShapes Go.ChangeAt Go.RowKit Qx11
open Go.Extern.Stop Go.Stop Go.Extern

theorem call18 (args : Array Value) (w : World) : (callFunc 18 args).run Tryf.prog w = ((FmtStop.errorf #[9, 40] #[26] args).run Tryf.prog w).andThen fun v w' => .ok (.value v) w' :=
  run_callFunc_extern Tryf.func18 (by kernel_rfl) (by kernel_rfl) (by kernel_rfl) (by kernel_rfl) args w
theorem guard (name : String) (w : World) : (FmtStop.guard name).run Tryf.prog w = .ok () w := by kernel_rfl

def fm1 : ByteArray := ⟨#[111, 99, 105, 86, 101, 114, 115, 105, 111, 110, 32, 37, 113, 32, 105, 115, 32, 110, 111, 116, 32, 97, 32, 115, 101, 109, 97, 110, 116, 105, 99, 32, 118, 101, 114, 115, 105, 111, 110, 32, 77, 65, 74, 79, 82, 46, 77, 73, 78, 79, 82, 46, 80, 65, 84, 67, 72]⟩
def fm2 : ByteArray := ⟨#[111, 99, 105, 86, 101, 114, 115, 105, 111, 110, 32, 37, 113, 32, 105, 115, 32, 110, 111, 116, 32, 115, 117, 112, 112, 111, 114, 116, 101, 100, 58, 32, 111, 110, 108, 121, 32, 109, 97, 106, 111, 114, 32, 118, 101, 114, 115, 105, 111, 110, 32, 49, 32, 105, 115]⟩

theorem p1 : FmtStop.printed? fm1 1 = some [(0, 113, false)] := by kernel_rfl
theorem p1r (w : World) : (FmtDoors.printed fm1 1).run Tryf.prog w = .ok [(0, 113, false)] w := by kernel_rfl
theorem p10 : FmtStop.printed? fm1 0 = some [] := by kernel_rfl
theorem p10r (w : World) : (FmtDoors.printed fm1 0).run Tryf.prog w = .ok [] w := by kernel_rfl
theorem p2 : FmtStop.printed? fm2 1 = some [(0, 113, false)] := by kernel_rfl
theorem p2r (w : World) : (FmtDoors.printed fm2 1).run Tryf.prog w = .ok [(0, 113, false)] w := by kernel_rfl
theorem p20 : FmtStop.printed? fm2 0 = some [] := by kernel_rfl
theorem p20r (w : World) : (FmtDoors.printed fm2 0).run Tryf.prog w = .ok [] w := by kernel_rfl

def shape9 : List UInt8 := [12, 6, 0, 0, 0, 0, 0, 0, 0, 115, 116, 114, 105, 110, 103]
theorem op9_113 (name : String) (x : ByteArray) (w : World) : (FmtStop.operand name false 113 false (.iface 9 (.string x))).run Tryf.prog w = .ok (shape9, FmtStop.pack x.data.toList) w := by kernel_rfl
theorem op9_113w (name : String) (x : ByteArray) (w : World) : (FmtStop.operand name true 113 false (.iface 9 (.string x))).run Tryf.prog w = .ok (shape9, FmtStop.pack x.data.toList) w := by kernel_rfl
theorem ptr45 (w : World) : (FmtStop.ptrTo "errors.errorString").run Tryf.prog w = .ok 45 w := by kernel_rfl
theorem elem45 (w : World) : (elemOf 45).run Tryf.prog w = .ok 47 w := by kernel_rfl
theorem isError45 (w : World) : (FmtDoors.textMethod 45 "Error").run Tryf.prog w = .ok true w := by kernel_rfl
theorem ptr42 (w : World) : (FmtStop.ptrTo "fmt.wrapError").run Tryf.prog w = .ok 42 w := by kernel_rfl
theorem elem42 (w : World) : (elemOf 42).run Tryf.prog w = .ok 67 w := by kernel_rfl
theorem isError42 (w : World) : (FmtDoors.textMethod 42 "Error").run Tryf.prog w = .ok true w := by kernel_rfl

attribute [local go_sem] call18 guard p1 p1r p10 p10r p2 p2r p20 p20r op9_113 op9_113w ptr45 elem45 isError45 ptr42 elem42 isError42

set_option maxRecDepth 100000 in
set_option maxHeartbeats 2000000 in
theorem errorf1 (F : Interp) (s : ByteArray) (g : Nat) (w : World) (hF : F.answers w.tape) (hc : w.cell? ⟨g, 0, none⟩ = some (.iface 9 (.string s))) :
    Calls Tryf.prog 12 #[.string fm1, .slice (some ⟨g, 0, none⟩) 1 1] w fun e w' => (∃ a, e = .returned (.iface 45 (.pointer (some a)))) ∧ Below w.heap.size w w' := by
  have hF' := answers_open hF
  go_enter Tryf.func12, Tryf.ntmps12
  go_wp2
  go_ret
  exact ⟨⟨_, rfl⟩, by repeat (first | exact Below.refl _ _ | refine Below.drew ?_ | refine Below.alloc ?_ (by simp) _)⟩
set_option maxRecDepth 100000 in
set_option maxHeartbeats 2000000 in
theorem errorf2 (F : Interp) (s : ByteArray) (g : Nat) (w : World) (hF : F.answers w.tape) (hc : w.cell? ⟨g, 0, none⟩ = some (.iface 9 (.string s))) :
    Calls Tryf.prog 12 #[.string fm2, .slice (some ⟨g, 0, none⟩) 1 1] w fun e w' => (∃ a, e = .returned (.iface 45 (.pointer (some a)))) ∧ Below w.heap.size w w' := by
  have hF' := answers_open hF
  go_enter Tryf.func12, Tryf.ntmps12
  go_wp2
  go_ret
  exact ⟨⟨_, rfl⟩, by repeat (first | exact Below.refl _ _ | refine Below.drew ?_ | refine Below.alloc ?_ (by simp) _)⟩
end Go.Proofs.Qxb6608811aFmt.Err

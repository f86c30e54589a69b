import Derived.Test.Qxb6615122aFmtProg
import Derived.Stop.CallBack
import Derived.Stop.IfaceNil
import GoSem.ClaimData
namespace Go.Proofs
open Go.Extern.Stop Go.Stop Go.Extern

/-! The closed facts for a walk over the two stopped fronts, after the guide's worked texts (CheckFmt, LabelFmt), at this dump's numbers. -/
theorem Tryf.call13 (args : Array Value) (w : World) : (callFunc 13 args).run Tryf.prog w = ((FmtStop.sprintf #[9, 31] #[9] args).run Tryf.prog w).andThen fun v w' => .ok (.value v) w' :=
  run_callFunc_extern Tryf.func13 (by kernel_rfl) (by kernel_rfl) (by kernel_rfl) (by kernel_rfl) args w
theorem Tryf.call11 (args : Array Value) (w : World) : (callFunc 11 args).run Tryf.prog w = ((FmtStop.errorf #[9, 31] #[26] args).run Tryf.prog w).andThen fun v w' => .ok (.value v) w' :=
  run_callFunc_extern Tryf.func11 (by kernel_rfl) (by kernel_rfl) (by kernel_rfl) (by kernel_rfl) args w
theorem Tryf.guard (name : String) (w : World) : (FmtStop.guard name).run Tryf.prog w = .ok () w := by kernel_rfl

theorem Tryf.fmtq : FmtStop.printed? ⟨#[37, 113]⟩ 1 = some [(0, 113, false)] := by kernel_rfl
theorem Tryf.fmtqr (w : World) : (FmtDoors.printed ⟨#[37, 113]⟩ 1).run Tryf.prog w = .ok [(0, 113, false)] w := by kernel_rfl
/-- The format of the error. -/
abbrev Tryf.longF : ByteArray := ⟨#[37, 115, 58, 32, 110, 111, 116, 32, 97, 32, 102, 105, 101, 108, 100, 32, 116, 104, 105, 115, 32, 114, 101, 108, 101, 97, 115, 101, 32, 107, 110, 111, 119, 115, 32, 40, 105, 116, 32, 107, 110, 111, 119, 115, 32, 37, 115, 41]⟩
theorem Tryf.fmtl : FmtStop.printed? ⟨#[37, 115, 58, 32, 110, 111, 116, 32, 97, 32, 102, 105, 101, 108, 100, 32, 116, 104, 105, 115, 32, 114, 101, 108, 101, 97, 115, 101, 32, 107, 110, 111, 119, 115, 32, 40, 105, 116, 32, 107, 110, 111, 119, 115, 32, 37, 115, 41]⟩ 2 = some [(0, 115, false), (1, 115, false)] := by kernel_rfl
theorem Tryf.fmtlr (w : World) : (FmtDoors.printed ⟨#[37, 115, 58, 32, 110, 111, 116, 32, 97, 32, 102, 105, 101, 108, 100, 32, 116, 104, 105, 115, 32, 114, 101, 108, 101, 97, 115, 101, 32, 107, 110, 111, 119, 115, 32, 40, 105, 116, 32, 107, 110, 111, 119, 115, 32, 37, 115, 41]⟩ 2).run Tryf.prog w = .ok [(0, 115, false), (1, 115, false)] w := by kernel_rfl

theorem Tryf.name9 : Tryf.prog.typeName? 3 9 = some "string" := by kernel_rfl
def Tryf.shape9 : List UInt8 := [12, 6, 0, 0, 0, 0, 0, 0, 0, 115, 116, 114, 105, 110, 103]
theorem Tryf.op9_113 (name : String) (x : ByteArray) (w : World) : (FmtStop.operand name false 113 false (.iface 9 (.string x))).run Tryf.prog w = .ok (Tryf.shape9, FmtStop.pack x.data.toList) w := by kernel_rfl
theorem Tryf.op9_115 (name : String) (x : ByteArray) (w : World) : (FmtStop.operand name false 115 false (.iface 9 (.string x))).run Tryf.prog w = .ok (Tryf.shape9, FmtStop.pack x.data.toList) w := by kernel_rfl
theorem Tryf.op9_115w (name : String) (x : ByteArray) (w : World) : (FmtStop.operand name true 115 false (.iface 9 (.string x))).run Tryf.prog w = .ok (Tryf.shape9, FmtStop.pack x.data.toList) w := by kernel_rfl
theorem Tryf.ptr36 (w : World) : (FmtStop.ptrTo "errors.errorString").run Tryf.prog w = .ok 36 w := by kernel_rfl
theorem Tryf.elem36 (w : World) : (elemOf 36).run Tryf.prog w = .ok 38 w := by kernel_rfl
theorem Tryf.isError36 (w : World) : (FmtDoors.textMethod 36 "Error").run Tryf.prog w = .ok true w := by kernel_rfl
end Go.Proofs

/-
  The closed facts for a walk over fmt.Sprintf in this program.
-/
import Derived.Test.YtgbcclfachgbjaaFmtProg
import Derived.Stop.CallBack
import Derived.Stop.IfaceNil
import GoSem.ClaimData
namespace Go.Proofs.YtgbcclfachgbjaaFmt.fm
open Go.Extern.Stop Go.Stop Go.Extern
set_option maxRecDepth 100000
@[go_sem] theorem call12 (args : Array Value) (w : World) : (callFunc 12 args).run Tryf.prog w = ((FmtStop.sprintf #[9, 301] #[9] args).run Tryf.prog w).andThen fun v w' => .ok (.value v) w' :=
  run_callFunc_extern Tryf.func12 (by kernel_rfl) (by kernel_rfl) (by kernel_rfl) (by kernel_rfl) args w
@[go_sem] theorem guard (name : String) (w : World) : (FmtStop.guard name).run Tryf.prog w = .ok () w := by kernel_rfl
@[go_sem] theorem fmt0 : FmtStop.printed? ⟨#[84, 121, 112, 101, 83, 99, 114, 105, 112, 116, 39, 115, 32, 37, 113, 32, 115, 101, 116, 116, 105, 110, 103, 32, 119, 97, 115, 32, 101, 110, 97, 98, 108, 101, 100, 32, 104, 101, 114, 101, 58]⟩ 1 = some [(0, 113, false)] := by kernel_rfl
@[go_sem] theorem fmt0r (w : World) : (FmtDoors.printed ⟨#[84, 121, 112, 101, 83, 99, 114, 105, 112, 116, 39, 115, 32, 37, 113, 32, 115, 101, 116, 116, 105, 110, 103, 32, 119, 97, 115, 32, 101, 110, 97, 98, 108, 101, 100, 32, 104, 101, 114, 101, 58]⟩ 1).run Tryf.prog w = .ok [(0, 113, false)] w := by kernel_rfl
theorem name9 : Tryf.prog.typeName? 3 9 = some "string" := by kernel_rfl
def shape9 : List UInt8 := [12, 6, 0, 0, 0, 0, 0, 0, 0, 115, 116, 114, 105, 110, 103]
@[go_sem] theorem op9_113 (name : String) (x : ByteArray) (w : World) : (FmtStop.operand name false 113 false (.iface 9 (.string x))).run Tryf.prog w = .ok (shape9, FmtStop.pack x.data.toList) w := by kernel_rfl
end Go.Proofs.YtgbcclfachgbjaaFmt.fm

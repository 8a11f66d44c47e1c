import Derived.Test.YbulkdxdaFmtRows
import Derived.WalkKit
import Derived.WalkSpells
import Derived.Handy
import Derived.Stop.CallBack
import Derived.Stop.IfaceNil
import Derived.Outline
namespace Go.Proofs.YbulkdxdaFmt
open Go.RowKit Go.Extern.Stop Go.Stop Go.Extern

theorem call7 (args : Array Value) (w : World) : (callFunc 7 args).run Ybaf.prog w = ((FmtStop.errorf #[9, 32] #[26] args).run Ybaf.prog w).andThen fun v w' => .ok (.value v) w' :=
  run_callFunc_extern Ybaf.func7 (by kernel_rfl) (by kernel_rfl) (by kernel_rfl) (by kernel_rfl) args w
theorem guardF (name : String) (w : World) : (FmtStop.guard name).run Ybaf.prog w = .ok () w := by kernel_rfl
def shape3 : List UInt8 := [5, 3, 0, 0, 0, 0, 0, 0, 0, 105, 110, 116]
theorem op3_100w (name : String) (x : Int) (w : World) : (FmtStop.operand name true 100 false (.iface 3 (.int .i64 x))).run Ybaf.prog w = .ok (shape3, Go.Extern.Stop.digits 8 (x % 2 ^ 64).toNat) w := by kernel_rfl
theorem ptr35 (w : World) : (FmtStop.ptrTo "errors.errorString").run Ybaf.prog w = .ok 35 w := by kernel_rfl
theorem elem35 (w : World) : (elemOf 35).run Ybaf.prog w = .ok 37 w := by kernel_rfl
-- the three formats
theorem fmtA (w : World) : (FmtDoors.printed ⟨#[115, 112, 97, 110, 108, 111, 111, 109, 58, 32, 66, 108, 111, 99, 107, 83, 105, 122, 101, 58, 32, 110, 101, 103, 97, 116, 105, 118, 101, 32, 115, 105, 122, 101, 32, 37, 100]⟩ 1).run Ybaf.prog w = .ok [(0, 100, false)] w := by kernel_rfl
theorem fmtB (w : World) : (FmtDoors.printed ⟨#[115, 112, 97, 110, 108, 111, 111, 109, 58, 32, 66, 108, 111, 99, 107, 83, 105, 122, 101, 58, 32, 114, 101, 103, 105, 115, 116, 101, 114, 32, 37, 100, 32, 104, 97, 115, 32, 119, 105, 100, 116, 104, 32, 37, 100, 44, 32, 98, 101, 108, 111, 119, 32, 49]⟩ 2).run Ybaf.prog w = .ok [(0, 100, false), (1, 100, false)] w := by kernel_rfl
theorem fmtC (w : World) : (FmtDoors.printed ⟨#[115, 112, 97, 110, 108, 111, 111, 109, 58, 32, 66, 108, 111, 99, 107, 83, 105, 122, 101, 58, 32, 115, 117, 109, 32, 112, 97, 115, 116, 32, 116, 104, 101, 32, 108, 97, 114, 103, 101, 115, 116, 32, 105, 110, 116, 32, 97, 116, 32, 114, 101, 103, 105, 115, 116, 101, 114, 32, 37, 100]⟩ 1).run Ybaf.prog w = .ok [(0, 100, false)] w := by kernel_rfl

end Go.Proofs.YbulkdxdaFmt

import Derived.Test.YbulkdxfsFmtRows
import Derived.WalkKit
import Derived.WalkSpells
import Derived.Handy
import Derived.Stop.CallBack
import Derived.Stop.IfaceNil
import Derived.Outline
namespace Go.Proofs.YbulkdxfsFmt
open Go.RowKit Go.Extern.Stop Go.Stop Go.Extern

theorem call13 (args : Array Value) (w : World) : (callFunc 13 args).run Ybaf.prog w = ((FmtStop.errorf #[9, 51] #[44] args).run Ybaf.prog w).andThen fun v w' => .ok (.value v) w' :=
  run_callFunc_extern Ybaf.func13 (by kernel_rfl) (by kernel_rfl) (by kernel_rfl) (by kernel_rfl) args w
theorem guardF (name : String) (w : World) : (FmtStop.guard name).run Ybaf.prog w = .ok () w := by kernel_rfl
def shape3 : List UInt8 := [5, 3, 0, 0, 0, 0, 0, 0, 0, 105, 110, 116]
def shape9 : List UInt8 := [12, 6, 0, 0, 0, 0, 0, 0, 0, 115, 116, 114, 105, 110, 103]
theorem op3_100w (name : String) (x : Int) (w : World) : (FmtStop.operand name true 100 false (.iface 3 (.int .i64 x))).run Ybaf.prog w = .ok (shape3, Go.Extern.Stop.digits 8 (x % 2 ^ 64).toNat) w := by kernel_rfl
theorem op9_115w (name : String) (x : ByteArray) (w : World) : (FmtStop.operand name true 115 false (.iface 9 (.string x))).run Ybaf.prog w = .ok (shape9, FmtStop.pack x.data.toList) w := by kernel_rfl
theorem ptrE (w : World) : (FmtStop.ptrTo "errors.errorString").run Ybaf.prog w = .ok 61 w := by kernel_rfl
theorem elemE (w : World) : (elemOf 61).run Ybaf.prog w = .ok 63 w := by kernel_rfl
theorem fmtA (w : World) : (FmtDoors.printed ⟨#[37, 115, 32, 105, 110, 32, 99, 108, 117, 115, 116, 101, 114, 32, 37, 100, 32, 97, 110, 100, 32, 37, 115, 32, 105, 110, 32, 99, 108, 117, 115, 116, 101, 114, 32, 37, 100, 32, 114, 101, 97, 99, 104, 32, 111, 110, 101, 32, 82, 101, 100, 105, 115, 32, 115, 101, 114, 118, 101, 114]⟩ 4).run Ybaf.prog w = .ok [(0, 115, false), (1, 100, false), (2, 115, false), (3, 100, false)] w := by kernel_rfl

theorem errorf_any (b : Nat) (s1 s2 : ByteArray) (i1 i2 : Int) (w : World) (c0 : w.cell? ⟨b, 0, none⟩ = some (.iface 9 (.string s1))) (c1 : w.cell? ⟨b, 1, none⟩ = some (.iface 3 (.int .i64 i1))) (c2 : w.cell? ⟨b, 2, none⟩ = some (.iface 9 (.string s2))) (c3 : w.cell? ⟨b, 3, none⟩ = some (.iface 3 (.int .i64 i2))) :
    Calls Ybaf.prog 10 #[.string ⟨#[37, 115, 32, 105, 110, 32, 99, 108, 117, 115, 116, 101, 114, 32, 37, 100, 32, 97, 110, 100, 32, 37, 115, 32, 105, 110, 32, 99, 108, 117, 115, 116, 101, 114, 32, 37, 100, 32, 114, 101, 97, 99, 104, 32, 111, 110, 101, 32, 82, 101, 100, 105, 115, 32, 115, 101, 114, 118, 101, 114]⟩, .slice (some ⟨b, 0, none⟩) 4 4] w fun e w' => (∃ v, e = .returned v) ∧ ∃ o, w' = (w.alloc o).drew := by
  have h1 := call13
  have h2 := guardF
  have h3 := op3_100w
  have h3' := op9_115w
  have h4 := ptrE
  have h5 := elemE
  have h6 := fmtA
  go_enter Ybaf.func10, Ybaf.ntmps10
  go_wp2
  go_ret
  exact ⟨⟨_, rfl⟩, _, rfl⟩
end Go.Proofs.YbulkdxfsFmt

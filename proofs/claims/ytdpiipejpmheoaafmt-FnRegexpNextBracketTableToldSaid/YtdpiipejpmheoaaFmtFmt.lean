/-
  fmt.Sprintf at two runes under the format of regexpNext: some text, one draw.
-/
import Derived.Test.YtdpiipejpmheoaaFmtBrack
import Derived.Stop.CallBack
import Derived.Stop.IfaceNil
import Derived.WalkSpells
import GoSem.ClaimData
namespace Go.Proofs.YtdpiipejpmheoaaFmt
open Go.RowKit Go.Extern.Stop Go.Stop Go.Extern

theorem Tryf.callS (args : Array Value) (w : World) : (callFunc 18 args).run Tryf.prog w = ((FmtStop.sprintf #[9, 70] #[9] args).run Tryf.prog w).andThen fun v w' => .ok (.value v) w' :=
  run_callFunc_extern Tryf.func18 (by kernel_rfl) (by kernel_rfl) (by kernel_rfl) (by kernel_rfl) args w
theorem Tryf.guardS (name : String) (w : World) : (FmtStop.guard name).run Tryf.prog w = .ok () w := by kernel_rfl
theorem Tryf.fmtS : FmtStop.printed? ⟨#[105, 110, 118, 97, 108, 105, 100, 32, 114, 97, 110, 103, 101, 58, 32, 37, 99, 45, 37, 99]⟩ 2 = some [(0, 99, false), (1, 99, false)] := by kernel_rfl
theorem Tryf.fmtSr (w : World) : (FmtDoors.printed ⟨#[105, 110, 118, 97, 108, 105, 100, 32, 114, 97, 110, 103, 101, 58, 32, 37, 99, 45, 37, 99]⟩ 2).run Tryf.prog w = .ok [(0, 99, false), (1, 99, false)] w := by kernel_rfl
def shapeR : List UInt8 := [4, 5, 0, 0, 0, 0, 0, 0, 0, 105, 110, 116, 51, 50]
theorem Tryf.opR (name : String) (x : Int) (w : World) : (FmtStop.operand name false 99 false (.iface 21 (.int .i32 x))).run Tryf.prog w = .ok (shapeR, Go.Extern.Stop.digits 8 (x % 2 ^ 64).toNat) w := by kernel_rfl

end Go.Proofs.YtdpiipejpmheoaaFmt

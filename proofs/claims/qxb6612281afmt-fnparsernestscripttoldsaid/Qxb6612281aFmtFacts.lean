import Derived.Test.Qxb6612281aFmtProg
import Derived.Stop.CallBack
import Derived.Stop.IfaceNil
import GoSem.ClaimData
namespace Go.Proofs
open Go.Extern.Stop Go.Stop Go.Extern

@[go_sem] theorem Tryf.call16 (args : Array Value) (w : World) : (callFunc 16 args).run Tryf.prog w = ((FmtStop.sprintf #[9, 76] #[9] args).run Tryf.prog w).andThen fun v w' => .ok (.value v) w' :=
  run_callFunc_extern Tryf.func16 (by kernel_rfl) (by kernel_rfl) (by kernel_rfl) (by kernel_rfl) args w

@[go_sem] theorem Tryf.guard (name : String) (w : World) : (FmtStop.guard name).run Tryf.prog w = .ok () w := by kernel_rfl

-- "expression nested more than %d levels deep", 1 operand
@[go_sem] theorem Tryf.fmt2 : FmtStop.printed? ⟨#[101, 120, 112, 114, 101, 115, 115, 105, 111, 110, 32, 110, 101, 115, 116, 101, 100, 32, 109, 111, 114, 101, 32, 116, 104, 97, 110, 32, 37, 100, 32, 108, 101, 118, 101, 108, 115, 32, 100, 101, 101, 112]⟩ 1 = some [(0, 100, false)] := by kernel_rfl
@[go_sem] theorem Tryf.fmt2r (w : World) : (FmtDoors.printed ⟨#[101, 120, 112, 114, 101, 115, 115, 105, 111, 110, 32, 110, 101, 115, 116, 101, 100, 32, 109, 111, 114, 101, 32, 116, 104, 97, 110, 32, 37, 100, 32, 108, 101, 118, 101, 108, 115, 32, 100, 101, 101, 112]⟩ 1).run Tryf.prog w = .ok [(0, 100, false)] w := by kernel_rfl

theorem Tryf.name3 : Tryf.prog.typeName? 3 3 = some "int" := by kernel_rfl
def Tryf.shape3 : List UInt8 := [5, 3, 0, 0, 0, 0, 0, 0, 0, 105, 110, 116]
@[go_sem] theorem Tryf.op3_100 (name : String) (x : Int) (w : World) : (FmtStop.operand name false 100 false (.iface 3 (.int .i64 x))).run Tryf.prog w = .ok (Tryf.shape3, Go.Extern.Stop.digits 8 (x % 2 ^ 64).toNat) w := by kernel_rfl

/-- What fmt is asked. -/
def Tryf.asked : List (List UInt8) := [[101, 120, 112, 114, 101, 115, 115, 105, 111, 110, 32, 110, 101, 115, 116, 101, 100, 32, 109, 111, 114, 101, 32, 116, 104, 97, 110, 32, 37, 100, 32, 108, 101, 118, 101, 108, 115, 32, 100, 101, 101, 112], Tryf.shape3, Go.Extern.Stop.digits 8 50000]
/-- The format, as a string. -/
abbrev Tryf.format : ByteArray := ⟨#[101, 120, 112, 114, 101, 115, 115, 105, 111, 110, 32, 110, 101, 115, 116, 101, 100, 32, 109, 111, 114, 101, 32, 116, 104, 97, 110, 32, 37, 100, 32, 108, 101, 118, 101, 108, 115, 32, 100, 101, 101, 112]⟩
end Go.Proofs

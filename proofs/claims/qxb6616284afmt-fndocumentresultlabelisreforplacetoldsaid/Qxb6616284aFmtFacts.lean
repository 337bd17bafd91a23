/-
  Closed facts for the walks over fmt.Sprintf (the calling stop) in this seat's program.
-/
import Derived.Test.Qxb6616284aFmtProg
import Derived.Stop.CallBack
import Derived.Stop.IfaceNil
import GoSem.ClaimData
namespace Go.Proofs
open Go.Extern.Stop Go.Stop Go.Extern

@[go_sem] theorem Tryf.call17 (args : Array Value) (w : World) : (callFunc 17 args).run Tryf.prog w = (FmtCalls.sprintf #[9, 89] #[9] args).run Tryf.prog w :=
  run_callFunc_next Tryf.func17 (by kernel_rfl) (by kernel_rfl) (by kernel_rfl) args w

@[go_sem] theorem Tryf.guard (name : String) (w : World) : (FmtStop.guard name).run Tryf.prog w = .ok () w := by kernel_rfl
theorem Tryf.nextTurns : Extern.next FmtCalls.turnsRow = some (FmtCalls.begun #[] #[]) := by kernel_rfl
theorem Tryf.nextReturned : Extern.next FmtCalls.returnedRow = some (FmtCalls.returned #[] #[]) := by kernel_rfl

-- the format of 'role %s is not known'
@[go_sem] theorem Tryf.fmt0 : FmtStop.printed? ⟨#[114, 111, 108, 101, 32, 37, 115, 32, 105, 115, 32, 110, 111, 116, 32, 107, 110, 111, 119, 110]⟩ 1 = some [(0, 115, false)] := by kernel_rfl
@[go_sem] theorem Tryf.fmt0r (w : World) : (FmtDoors.printed ⟨#[114, 111, 108, 101, 32, 37, 115, 32, 105, 115, 32, 110, 111, 116, 32, 107, 110, 111, 119, 110]⟩ 1).run Tryf.prog w = .ok [(0, 115, false)] w := by kernel_rfl
-- the format of 'document %d'
@[go_sem] theorem Tryf.fmt1 : FmtStop.printed? ⟨#[100, 111, 99, 117, 109, 101, 110, 116, 32, 37, 100]⟩ 1 = some [(0, 100, false)] := by kernel_rfl
@[go_sem] theorem Tryf.fmt1r (w : World) : (FmtDoors.printed ⟨#[100, 111, 99, 117, 109, 101, 110, 116, 32, 37, 100]⟩ 1).run Tryf.prog w = .ok [(0, 100, false)] w := by kernel_rfl

-- type 3: int
def Tryf.shape3 : List UInt8 := [5, 3, 0, 0, 0, 0, 0, 0, 0, 105, 110, 116]
@[go_sem] theorem Tryf.act3_100 (name : String) (x : Value) (w : World) : (FmtCalls.act name false 100 false (.iface 3 x)).run Tryf.prog w = .ok (.closed false) w := by kernel_rfl
@[go_sem] theorem Tryf.op3_100 (name : String) (x : Int) (w : World) : (FmtStop.operand name false 100 false (.iface 3 (.int .i64 x))).run Tryf.prog w = .ok (Tryf.shape3, Go.Extern.Stop.digits 8 (x % 2 ^ 64).toNat) w := by kernel_rfl
@[go_sem] theorem Tryf.str3 (w : World) : (typeStr 3).run Tryf.prog w = .ok "int" w := by kernel_rfl
-- type 9: string
def Tryf.shape9 : List UInt8 := [12, 6, 0, 0, 0, 0, 0, 0, 0, 115, 116, 114, 105, 110, 103]
@[go_sem] theorem Tryf.act9_115 (name : String) (x : Value) (w : World) : (FmtCalls.act name false 115 false (.iface 9 x)).run Tryf.prog w = .ok (.closed false) w := by kernel_rfl
@[go_sem] theorem Tryf.op9_115 (name : String) (x : ByteArray) (w : World) : (FmtStop.operand name false 115 false (.iface 9 (.string x))).run Tryf.prog w = .ok (Tryf.shape9, FmtStop.pack x.data.toList) w := by kernel_rfl
@[go_sem] theorem Tryf.str9 (w : World) : (typeStr 9).run Tryf.prog w = .ok "string" w := by kernel_rfl

end Go.Proofs

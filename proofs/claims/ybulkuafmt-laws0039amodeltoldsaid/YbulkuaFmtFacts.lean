/-
  THE CLOSED FACTS FOR A WALK OVER fmt's STOPPED FRONT in this program's translation, and errors.Is by its contracts: after the guide's worked texts PortFmt.lean, LevelsFmt.lean and SentryIs.lean, turned to this program's numbers. Derived; nothing here is trusted.
-/
import Derived.Test.YbulkuaFmtRows
import Derived.Stop.CallBack
import Derived.Stop.IfaceNil
import GoSem.ClaimData
namespace Go.Proofs
open Go.Extern.Stop Go.Stop Go.Extern

@[go_sem] theorem Ybaf.call13 (args : Array Value) (w : World) : (callFunc 13 args).run Ybaf.prog w = (FmtCalls.errorf #[9, 40] #[25] args).run Ybaf.prog w :=
  run_callFunc_next Ybaf.func13 (by kernel_rfl) (by kernel_rfl) (by kernel_rfl) args w
@[go_sem] theorem Ybaf.guard (name : String) (w : World) : (FmtStop.guard name).run Ybaf.prog w = .ok () w := by kernel_rfl
theorem Ybaf.nextTurns : Extern.next FmtCalls.turnsRow = some (FmtCalls.begun #[] #[]) := by kernel_rfl
theorem Ybaf.nextReturned : Extern.next FmtCalls.returnedRow = some (FmtCalls.returned #[] #[]) := by kernel_rfl

@[go_sem] theorem Ybaf.fmt0 : FmtStop.printed? ⟨#[37, 115, 58, 32, 37, 119, 32, 40, 97, 116, 32, 109, 111, 115, 116, 32, 37, 100, 41]⟩ 3 = some [(0, 115, false), (1, 119, false), (2, 100, false)] := by kernel_rfl
@[go_sem] theorem Ybaf.fmt0r (w : World) : (FmtDoors.printed ⟨#[37, 115, 58, 32, 37, 119, 32, 40, 97, 116, 32, 109, 111, 115, 116, 32, 37, 100, 41]⟩ 3).run Ybaf.prog w = .ok [(0, 115, false), (1, 119, false), (2, 100, false)] w := by kernel_rfl
@[go_sem] theorem Ybaf.fmt1 : FmtStop.printed? ⟨#[37, 115, 58, 32, 37, 119]⟩ 2 = some [(0, 115, false), (1, 119, false)] := by kernel_rfl
@[go_sem] theorem Ybaf.fmt1r (w : World) : (FmtDoors.printed ⟨#[37, 115, 58, 32, 37, 119]⟩ 2).run Ybaf.prog w = .ok [(0, 115, false), (1, 119, false)] w := by kernel_rfl
@[go_sem] theorem Ybaf.fmt2 : FmtStop.printed? ⟨#[37, 115, 32, 37, 119]⟩ 2 = some [(0, 115, false), (1, 119, false)] := by kernel_rfl
@[go_sem] theorem Ybaf.fmt2r (w : World) : (FmtDoors.printed ⟨#[37, 115, 32, 37, 119]⟩ 2).run Ybaf.prog w = .ok [(0, 115, false), (1, 119, false)] w := by kernel_rfl
@[go_sem] theorem Ybaf.fmt3 : FmtStop.printed? ⟨#[37, 115, 32, 37, 115, 32, 105, 115, 32, 110, 111, 116, 32, 97, 98, 111, 118, 101, 32, 122, 101, 114, 111]⟩ 2 = some [(0, 115, false), (1, 115, false)] := by kernel_rfl
@[go_sem] theorem Ybaf.fmt3r (w : World) : (FmtDoors.printed ⟨#[37, 115, 32, 37, 115, 32, 105, 115, 32, 110, 111, 116, 32, 97, 98, 111, 118, 101, 32, 122, 101, 114, 111]⟩ 2).run Ybaf.prog w = .ok [(0, 115, false), (1, 115, false)] w := by kernel_rfl

def Ybaf.shape9 : List UInt8 := [12, 6, 0, 0, 0, 0, 0, 0, 0, 115, 116, 114, 105, 110, 103]
@[go_sem] theorem Ybaf.act9_115w (name : String) (x : Value) (w : World) : (FmtCalls.act name true 115 false (.iface 9 x)).run Ybaf.prog w = .ok (.closed true) w := by kernel_rfl
@[go_sem] theorem Ybaf.op9_115w (name : String) (x : ByteArray) (w : World) : (FmtStop.operand name true 115 false (.iface 9 (.string x))).run Ybaf.prog w = .ok (Ybaf.shape9, FmtStop.pack x.data.toList) w := by kernel_rfl
def Ybaf.shape3 : List UInt8 := [5, 3, 0, 0, 0, 0, 0, 0, 0, 105, 110, 116]
@[go_sem] theorem Ybaf.act3_100w (name : String) (x : Value) (w : World) : (FmtCalls.act name true 100 false (.iface 3 x)).run Ybaf.prog w = .ok (.closed true) w := by kernel_rfl
@[go_sem] theorem Ybaf.op3_100w (name : String) (x : Int) (w : World) : (FmtStop.operand name true 100 false (.iface 3 (.int .i64 x))).run Ybaf.prog w = .ok (Ybaf.shape3, Go.Extern.Stop.digits 8 (x % 2 ^ 64).toNat) w := by kernel_rfl
@[go_sem] theorem Ybaf.act23_115w (name : String) (x : Value) (w : World) : (FmtCalls.act name true 115 false (.iface 23 x)).run Ybaf.prog w = .ok (.call false) w := by kernel_rfl
@[go_sem] theorem Ybaf.isString23 (w : World) : (FmtDoors.textMethod 23 "String").run Ybaf.prog w = .ok true w := by kernel_rfl
theorem Ybaf.invokeString23 (x : Value) (w : World) : (invoke (.fn (.method "String") #[]) #[.iface 23 x]).run Ybaf.prog w = .ok (.enter 15 #[x]) w := by kernel_rfl
@[go_sem] theorem Ybaf.str23 (w : World) : (typeStr 23).run Ybaf.prog w = .ok "zhaomu.Decimal" w := by kernel_rfl

@[go_sem] theorem Ybaf.ptr55 (w : World) : (FmtStop.ptrTo "errors.errorString").run Ybaf.prog w = .ok 55 w := by kernel_rfl
@[go_sem] theorem Ybaf.elem55 (w : World) : (elemOf 55).run Ybaf.prog w = .ok 57 w := by kernel_rfl
@[go_sem] theorem Ybaf.isError55 (w : World) : (FmtDoors.textMethod 55 "Error").run Ybaf.prog w = .ok true w := by kernel_rfl
def Ybaf.plain55 : List UInt8 := 14 :: FmtStop.pack "*errors.errorString".toUTF8.data.toList
theorem Ybaf.opPlain55_119w (name : String) (a : Addr) (s : ByteArray) (w : World) (hc : w.cell? a = some (.string s)) :
    (FmtStop.operand name true 119 false (.iface 55 (.pointer (some a)))).run Ybaf.prog w = .ok (Ybaf.plain55, s.data.toList) w := by
  have h1 : (typeStr 55).run Ybaf.prog w = .ok "*errors.errorString" w := by kernel_rfl
  have d2 : Ybaf.t55.desc = .pointer 57 := rfl
  have d3 : Ybaf.t57.desc = .named "errors.errorString" 56 := rfl
  simp [FmtStop.operand, h1, d2, d3, run_load, hc, Ybaf.plain55]
@[go_sem] theorem Ybaf.act55_119w (name : String) (x : Value) (w : World) : (FmtCalls.act name true 119 false (.iface 55 x)).run Ybaf.prog w = .ok (.closed true) w := by kernel_rfl

@[go_sem] theorem Ybaf.ptr42 (w : World) : (FmtStop.ptrTo "fmt.wrapError").run Ybaf.prog w = .ok 42 w := by kernel_rfl
@[go_sem] theorem Ybaf.elem42 (w : World) : (elemOf 42).run Ybaf.prog w = .ok 84 w := by kernel_rfl
@[go_sem] theorem Ybaf.isError42 (w : World) : (FmtDoors.textMethod 42 "Error").run Ybaf.prog w = .ok true w := by kernel_rfl
def Ybaf.plain42 : List UInt8 := 14 :: FmtStop.pack "*fmt.wrapError".toUTF8.data.toList
theorem Ybaf.opPlain42_119w (name : String) (a : Addr) (s : ByteArray) (w : World) (hc : w.cell? a = some (.string s)) :
    (FmtStop.operand name true 119 false (.iface 42 (.pointer (some a)))).run Ybaf.prog w = .ok (Ybaf.plain42, s.data.toList) w := by
  have h1 : (typeStr 42).run Ybaf.prog w = .ok "*fmt.wrapError" w := by kernel_rfl
  have d2 : Ybaf.t42.desc = .pointer 84 := rfl
  have d3 : Ybaf.t84.desc = .named "fmt.wrapError" 83 := rfl
  simp [FmtStop.operand, h1, d2, d3, run_load, hc, Ybaf.plain42]
@[go_sem] theorem Ybaf.act42_119w (name : String) (x : Value) (w : World) : (FmtCalls.act name true 119 false (.iface 42 x)).run Ybaf.prog w = .ok (.closed true) w := by kernel_rfl

end Go.Proofs

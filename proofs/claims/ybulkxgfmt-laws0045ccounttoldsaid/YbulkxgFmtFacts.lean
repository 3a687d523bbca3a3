/-
  The closed facts for a walk over fmt's stopped front in this program's translation (after the guide's worked text CheckFmt.lean, turned to this program's numbers). Derived; nothing here is trusted.
-/
import Derived.Test.YbulkxgFmtRows
import Derived.Stop.CallBack
import Derived.Stop.IfaceNil
import GoSem.ClaimData
namespace Go.Proofs
open Go.Extern.Stop Go.Stop Go.Extern

@[go_sem] theorem Ybaf.call31 (args : Array Value) (w : World) : (callFunc 31 args).run Ybaf.prog w = ((FmtStop.errorf #[9, 114] #[29] args).run Ybaf.prog w).andThen fun v w' => .ok (.value v) w' :=
  run_callFunc_extern Ybaf.func31 (by kernel_rfl) (by kernel_rfl) (by kernel_rfl) (by kernel_rfl) args w
@[go_sem] theorem Ybaf.guard (name : String) (w : World) : (FmtStop.guard name).run Ybaf.prog w = .ok () w := by kernel_rfl

@[go_sem] theorem Ybaf.fmt0 : FmtStop.printed? ⟨#[37, 115, 32, 101, 120, 99, 101, 101, 100, 115, 32, 37, 119, 32, 37, 100]⟩ 3 = some [(0, 115, false), (1, 119, false), (2, 100, false)] := by kernel_rfl
@[go_sem] theorem Ybaf.fmt0r (w : World) : (FmtDoors.printed ⟨#[37, 115, 32, 101, 120, 99, 101, 101, 100, 115, 32, 37, 119, 32, 37, 100]⟩ 3).run Ybaf.prog w = .ok [(0, 115, false), (1, 119, false), (2, 100, false)] w := by kernel_rfl

def Ybaf.shape9 : List UInt8 := [12, 6, 0, 0, 0, 0, 0, 0, 0, 115, 116, 114, 105, 110, 103]
@[go_sem] theorem Ybaf.op9_115w (name : String) (x : ByteArray) (w : World) : (FmtStop.operand name true 115 false (.iface 9 (.string x))).run Ybaf.prog w = .ok (Ybaf.shape9, FmtStop.pack x.data.toList) w := by kernel_rfl
def Ybaf.shape3 : List UInt8 := [5, 3, 0, 0, 0, 0, 0, 0, 0, 105, 110, 116]
@[go_sem] theorem Ybaf.op3_100w (name : String) (x : Int) (w : World) : (FmtStop.operand name true 100 false (.iface 3 (.int .i64 x))).run Ybaf.prog w = .ok (Ybaf.shape3, Go.Extern.Stop.digits 8 (x % 2 ^ 64).toNat) w := by kernel_rfl

@[go_sem] theorem Ybaf.ptr120 (w : World) : (FmtStop.ptrTo "errors.errorString").run Ybaf.prog w = .ok 120 w := by kernel_rfl
@[go_sem] theorem Ybaf.elem120 (w : World) : (elemOf 120).run Ybaf.prog w = .ok 122 w := by kernel_rfl
@[go_sem] theorem Ybaf.isError120 (w : World) : (FmtDoors.textMethod 120 "Error").run Ybaf.prog w = .ok true w := by kernel_rfl
def Ybaf.plain120 : List UInt8 := 14 :: FmtStop.pack "*errors.errorString".toUTF8.data.toList
theorem Ybaf.opPlain120_119w (name : String) (a : Addr) (s : ByteArray) (w : World) (hc : w.cell? a = some (.string s)) :
    (FmtStop.operand name true 119 false (.iface 120 (.pointer (some a)))).run Ybaf.prog w = .ok (Ybaf.plain120, s.data.toList) w := by
  have h1 : (typeStr 120).run Ybaf.prog w = .ok "*errors.errorString" w := by kernel_rfl
  have d2 : Ybaf.t120.desc = .pointer 122 := rfl
  have d3 : Ybaf.t122.desc = .named "errors.errorString" 121 := rfl
  simp [FmtStop.operand, h1, d2, d3, run_load, hc, Ybaf.plain120]


@[go_sem] theorem Ybaf.ptr116 (w : World) : (FmtStop.ptrTo "fmt.wrapError").run Ybaf.prog w = .ok 116 w := by kernel_rfl
@[go_sem] theorem Ybaf.elem116 (w : World) : (elemOf 116).run Ybaf.prog w = .ok 166 w := by kernel_rfl
@[go_sem] theorem Ybaf.isError116 (w : World) : (FmtDoors.textMethod 116 "Error").run Ybaf.prog w = .ok true w := by kernel_rfl
def Ybaf.plain116 : List UInt8 := 14 :: FmtStop.pack "*fmt.wrapError".toUTF8.data.toList
theorem Ybaf.opPlain116_119w (name : String) (a : Addr) (s : ByteArray) (w : World) (hc : w.cell? a = some (.string s)) :
    (FmtStop.operand name true 119 false (.iface 116 (.pointer (some a)))).run Ybaf.prog w = .ok (Ybaf.plain116, s.data.toList) w := by
  have h1 : (typeStr 116).run Ybaf.prog w = .ok "*fmt.wrapError" w := by kernel_rfl
  have d2 : Ybaf.t116.desc = .pointer 166 := rfl
  have d3 : Ybaf.t166.desc = .named "fmt.wrapError" 165 := rfl
  simp [FmtStop.operand, h1, d2, d3, run_load, hc, Ybaf.plain116]


end Go.Proofs

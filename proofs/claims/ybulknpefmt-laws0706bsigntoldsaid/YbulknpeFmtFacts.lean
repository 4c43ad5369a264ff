/-
  Closed facts for the walk over fmt's stopped front at this dump (function 10: fmt.errorf, which calls its operands' methods). Each by the kernel.
-/
import Derived.Test.YbulknpeFmtRows
import Derived.Stop.CallBack
import Derived.Stop.IfaceNil
import GoSem.ClaimData
namespace Go.Proofs.YbulknpeFmt
open Go.Extern.Stop Go.Stop Go.Extern

/-- The sentinel's type's name, off the given datum. -/
def Ybaf.errName : String := match (Rows.laid_example_com_latchwork_latchwork_lock_ErrBadDuration : DataW Unit) with
  | .iface n _ => n
  | _ => default

theorem Ybaf.call10 (args : Array Value) (w : World) : (callFunc 10 args).run Ybaf.prog w = (FmtCalls.errorf #[9, 34] #[23] args).run Ybaf.prog w :=
  run_callFunc_next Ybaf.func10 (by kernel_rfl) (by kernel_rfl) (by kernel_rfl) args w
theorem Ybaf.guard (name : String) (w : World) : (FmtStop.guard name).run Ybaf.prog w = .ok () w := by kernel_rfl
theorem Ybaf.nextTurns : Extern.next FmtCalls.turnsRow = some (FmtCalls.begun #[] #[]) := by kernel_rfl
theorem Ybaf.nextReturned : Extern.next FmtCalls.returnedRow = some (FmtCalls.returned #[] #[]) := by kernel_rfl

-- the format over two operands
theorem Ybaf.fmt0 : FmtStop.printed? ⟨#[37, 119, 58, 32, 119, 97, 105, 116, 32, 37, 118, 32, 105, 115, 32, 110, 101, 103, 97, 116, 105, 118, 101]⟩ 2 = some [(0, 119, false), (1, 118, false)] := by kernel_rfl
theorem Ybaf.fmt0r (w : World) : (FmtDoors.printed ⟨#[37, 119, 58, 32, 119, 97, 105, 116, 32, 37, 118, 32, 105, 115, 32, 110, 101, 103, 97, 116, 105, 118, 101]⟩ 2).run Ybaf.prog w = .ok [(0, 119, false), (1, 118, false)] w := by kernel_rfl

-- type 25: time.Duration: its String() is run
theorem Ybaf.act25_118 (name : String) (x : Value) (w : World) : (FmtCalls.act name false 118 false (.iface 25 x)).run Ybaf.prog w = .ok (.call false) w := by kernel_rfl
theorem Ybaf.act25_118w (name : String) (x : Value) (w : World) : (FmtCalls.act name true 118 false (.iface 25 x)).run Ybaf.prog w = .ok (.call false) w := by kernel_rfl
theorem Ybaf.invokeString25 (x : Value) (w : World) : (invoke (.fn (.method "String") #[]) #[.iface 25 x]).run Ybaf.prog w = .ok (.enter 12 #[x]) w := by kernel_rfl
theorem Ybaf.str25 (w : World) : (typeStr 25).run Ybaf.prog w = .ok "time.Duration" w := by kernel_rfl

-- type 48: *errors.errorString: read out of memory
theorem Ybaf.act48_119w (name : String) (x : Value) (w : World) : (FmtCalls.act name true 119 false (.iface 48 x)).run Ybaf.prog w = .ok (.closed true) w := by kernel_rfl
theorem Ybaf.isError48 (w : World) : (FmtDoors.textMethod 48 "Error").run Ybaf.prog w = .ok true w := by kernel_rfl
theorem Ybaf.str48 (w : World) : (typeStr 48).run Ybaf.prog w = .ok Ybaf.errName w := by kernel_rfl
theorem Ybaf.ptr48 (w : World) : (FmtStop.ptrTo "errors.errorString").run Ybaf.prog w = .ok 48 w := by kernel_rfl
theorem Ybaf.elem48 (w : World) : (elemOf 48).run Ybaf.prog w = .ok 50 w := by kernel_rfl
theorem Ybaf.name48 : Ybaf.prog.typeName? 3 48 = some Ybaf.errName := by kernel_rfl
def Ybaf.plain48 : List UInt8 := 14 :: FmtStop.pack Ybaf.errName.toUTF8.data.toList
theorem Ybaf.opPlain48_119w (name : String) (a : Addr) (s : ByteArray) (w : World) (hc : w.cell? a = some (.string s)) :
    (FmtStop.operand name true 119 false (.iface 48 (.pointer (some a)))).run Ybaf.prog w = .ok (Ybaf.plain48, s.data.toList) w := by
  have h1 : (typeStr 48).run Ybaf.prog w = .ok Ybaf.errName w := by kernel_rfl
  have d2 : Ybaf.t48.desc = .pointer 50 := rfl
  have d3 : Ybaf.t50.desc = .named "errors.errorString" 49 := rfl
  simp [FmtStop.operand, h1, d2, d3, run_load, hc, Ybaf.plain48]

-- type 36: *fmt.wrapError, which a %w makes
theorem Ybaf.ptr36 (w : World) : (FmtStop.ptrTo "fmt.wrapError").run Ybaf.prog w = .ok 36 w := by kernel_rfl
theorem Ybaf.elem36 (w : World) : (elemOf 36).run Ybaf.prog w = .ok 84 w := by kernel_rfl
theorem Ybaf.isError36 (w : World) : (FmtDoors.textMethod 36 "Error").run Ybaf.prog w = .ok true w := by kernel_rfl
end Go.Proofs.YbulknpeFmt

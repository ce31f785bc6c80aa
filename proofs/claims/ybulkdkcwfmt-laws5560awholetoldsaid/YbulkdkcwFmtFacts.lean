/-
  Closed facts on fmt's stops at this dump, after the guide's PortFmt.lean and LevelsFmt.lean; each by the kernel.
-/
import Derived.Test.YbulkdkcwFmtProg
import Derived.Stop.CallBack
import Derived.Stop.IfaceNil
import GoSem.ClaimData
import Derived.KernelRfl
namespace Go.Proofs.YbulkdkcwFmt
open Go.Extern.Stop Go.Stop Go.Extern

/-- A pointer type's name, out of its element's. -/
def star (s : String) : String := String.singleton (Char.ofNat 42) ++ s

-- fmt.errorf: function 18: a stop that calls its operands' methods; fmt.Sprintf: function 20: a plain stop
theorem call18 (args : Array Value) (w : World) : (callFunc 18 args).run Ybaf.prog w = (FmtCalls.errorf #[9, 73] #[27] args).run Ybaf.prog w :=
  run_callFunc_next Ybaf.func18 (by kernel_rfl) (by kernel_rfl) (by kernel_rfl) args w
theorem call20 (args : Array Value) (w : World) : (callFunc 20 args).run Ybaf.prog w = ((FmtStop.sprintf #[9, 73] #[9] args).run Ybaf.prog w).andThen fun v w' => .ok (.value v) w' :=
  run_callFunc_extern Ybaf.func20 (by kernel_rfl) (by kernel_rfl) (by kernel_rfl) (by kernel_rfl) args w
theorem guard (name : String) (w : World) : (FmtStop.guard name).run Ybaf.prog w = .ok () w := by kernel_rfl
theorem nextTurns : Extern.next FmtCalls.turnsRow = some (FmtCalls.begun #[] #[]) := by kernel_rfl
theorem nextReturned : Extern.next FmtCalls.returnedRow = some (FmtCalls.returned #[] #[]) := by kernel_rfl

-- the formats
abbrev fHead : ByteArray := ⟨#[114, 101, 97, 100, 105, 110, 103, 32, 102, 114, 97, 109, 101, 32, 104, 101, 97, 100, 101, 114, 58, 32, 37, 119]⟩
abbrev fPay : ByteArray := ⟨#[114, 101, 97, 100, 105, 110, 103, 32, 37, 118, 32, 102, 114, 97, 109, 101, 32, 112, 97, 121, 108, 111, 97, 100, 58, 32, 37, 119]⟩
abbrev fLen : ByteArray := ⟨#[37, 119, 58, 32, 37, 118, 32, 102, 114, 97, 109, 101, 32, 111, 102, 32, 37, 100, 32, 98, 121, 116, 101, 115, 44, 32, 108, 105, 109, 105, 116, 32, 37, 100]⟩
abbrev fType : ByteArray := ⟨#[70, 114, 97, 109, 101, 84, 121, 112, 101, 40, 37, 100, 41]⟩
theorem fmt0 : FmtStop.printed? fHead 1 = some [(0, 119, false)] := by kernel_rfl
theorem fmt0r (w : World) : (FmtDoors.printed fHead 1).run Ybaf.prog w = .ok [(0, 119, false)] w := by kernel_rfl
theorem fmt1 : FmtStop.printed? fPay 2 = some [(0, 118, false), (1, 119, false)] := by kernel_rfl
theorem fmt1r (w : World) : (FmtDoors.printed fPay 2).run Ybaf.prog w = .ok [(0, 118, false), (1, 119, false)] w := by kernel_rfl
theorem fmt2 : FmtStop.printed? fLen 4 = some [(0, 119, false), (1, 118, false), (2, 100, false), (3, 100, false)] := by kernel_rfl
theorem fmt2r (w : World) : (FmtDoors.printed fLen 4).run Ybaf.prog w = .ok [(0, 119, false), (1, 118, false), (2, 100, false), (3, 100, false)] w := by kernel_rfl
theorem fmt3 : FmtStop.printed? fType 1 = some [(0, 100, false)] := by kernel_rfl
theorem fmt3r (w : World) : (FmtDoors.printed fType 1).run Ybaf.prog w = .ok [(0, 100, false)] w := by kernel_rfl

-- type 32: protocol.FrameType: its String is called
theorem act32_118w (name : String) (x : Value) (w : World) : (FmtCalls.act name true 118 false (.iface 32 x)).run Ybaf.prog w = .ok (.call false) w := by kernel_rfl
theorem isString32 (w : World) : (FmtDoors.textMethod 32 "String").run Ybaf.prog w = .ok true w := by kernel_rfl
theorem invokeString32 (x : Value) (w : World) : (invoke (.fn (.method "String") #[]) #[.iface 32 x]).run Ybaf.prog w = .ok (.enter 19 #[x]) w := by kernel_rfl
theorem str32 (w : World) : (typeStr 32).run Ybaf.prog w = .ok "protocol.FrameType" w := by kernel_rfl
-- type 2: int64
def shape2 : List UInt8 := [5, 5, 0, 0, 0, 0, 0, 0, 0, 105, 110, 116, 54, 52]
theorem act2_100w (name : String) (x : Value) (w : World) : (FmtCalls.act name true 100 false (.iface 2 x)).run Ybaf.prog w = .ok (.closed true) w := by kernel_rfl
theorem op2_100w (name : String) (x : Int) (w : World) : (FmtStop.operand name true 100 false (.iface 2 (.int .i64 x))).run Ybaf.prog w = .ok (shape2, digits 8 (x % 2 ^ 64).toNat) w := by kernel_rfl
theorem strict2 (name : String) (x : Int) (w : World) : (FmtStop.strict name (.iface 2 (.int .i64 x))).run Ybaf.prog w = .ok (shape2, digits 8 (x % 2 ^ 64).toNat) w := by kernel_rfl
theorem str2 (w : World) : (typeStr 2).run Ybaf.prog w = .ok "int64" w := by kernel_rfl
-- type 5: uint8, under fmt.Sprintf
def shape5 : List UInt8 := [6, 5, 0, 0, 0, 0, 0, 0, 0, 117, 105, 110, 116, 56]
theorem op5_100 (name : String) (x : Int) (w : World) : (FmtStop.operand name false 100 false (.iface 5 (.int .u8 x))).run Ybaf.prog w = .ok (shape5, digits 8 (x % 2 ^ 64).toNat) w := by kernel_rfl
theorem strict5 (name : String) (x : Int) (w : World) : (FmtStop.strict name (.iface 5 (.int .u8 x))).run Ybaf.prog w = .ok (shape5, digits 8 (x % 2 ^ 64).toNat) w := by kernel_rfl
-- type 40: *errors.errorString
theorem act40_119w (name : String) (x : Value) (w : World) : (FmtCalls.act name true 119 false (.iface 40 x)).run Ybaf.prog w = .ok (.closed true) w := by kernel_rfl
theorem isError40 (w : World) : (FmtDoors.textMethod 40 "Error").run Ybaf.prog w = .ok true w := by kernel_rfl
theorem str40 (w : World) : (typeStr 40).run Ybaf.prog w = .ok (star "errors.errorString") w := by kernel_rfl
theorem ptr40 (w : World) : (FmtStop.ptrTo "errors.errorString").run Ybaf.prog w = .ok 40 w := by kernel_rfl
theorem elem40 (w : World) : (elemOf 40).run Ybaf.prog w = .ok 42 w := by kernel_rfl
theorem ptr74 (w : World) : (FmtStop.ptrTo "fmt.wrapError").run Ybaf.prog w = .ok 74 w := by kernel_rfl
theorem elem74 (w : World) : (elemOf 74).run Ybaf.prog w = .ok 102 w := by kernel_rfl
theorem isError74 (w : World) : (FmtDoors.textMethod 74 "Error").run Ybaf.prog w = .ok true w := by kernel_rfl
def plain40 : List UInt8 := 14 :: FmtStop.pack (star "errors.errorString").toUTF8.data.toList
theorem opPlain40_119w (name : String) (a : Addr) (s : ByteArray) (w : World) (hc : w.cell? a = some (.string s)) :
    (FmtStop.operand name true 119 false (.iface 40 (.pointer (some a)))).run Ybaf.prog w = .ok (plain40, s.data.toList) w := by
  have h1 := str40 w
  have d2 : Ybaf.t40.desc = .pointer 42 := rfl
  have d3 : Ybaf.t42.desc = .named "errors.errorString" 41 := rfl
  simp [FmtStop.operand, h1, d2, d3, run_load, hc, plain40]
end Go.Proofs.YbulkdkcwFmt

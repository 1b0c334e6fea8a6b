/-
  THE CLOSED FACTS OF fmt's STOPPED FRONTS AT THIS DUMP.
-/
import Derived.Test.Qxb6606217aFmtProg
import Derived.Stop.CallBack
import Derived.Stop.IfaceNil
import GoSem.ClaimData
import Derived.KernelRfl
namespace Go.Proofs.Qxb6606217aFmt
open Go.Extern.Stop Go.Stop Go.Extern

theorem call24 (args : Array Value) (w : World) : (callFunc 24 args).run Tryf.prog w = (FmtCalls.sprintf #[9, 53] #[9] args).run Tryf.prog w :=
  run_callFunc_next Tryf.func24 (by kernel_rfl) (by kernel_rfl) (by kernel_rfl) args w
@[go_sem] theorem call25 (args : Array Value) (w : World) : (callFunc 25 args).run Tryf.prog w = ((FmtStop.errorf #[9, 53] #[30] args).run Tryf.prog w).andThen fun v w' => .ok (.value v) w' :=
  run_callFunc_extern Tryf.func25 (by kernel_rfl) (by kernel_rfl) (by kernel_rfl) (by kernel_rfl) args w
@[go_sem] theorem guardT (name : String) (w : World) : (FmtStop.guard name).run Tryf.prog w = .ok () w := by kernel_rfl
theorem nextTurns : Extern.next FmtCalls.turnsRow = some (FmtCalls.begun #[] #[]) := by kernel_rfl

def fmA : ByteArray := ⟨#[37, 115, 32, 110, 101, 101, 100, 115, 32, 37, 100, 32, 98, 121, 116, 101, 115, 44, 32, 37, 100, 32, 114, 101, 109, 97, 105, 110]⟩
@[go_sem] theorem fmtA : FmtStop.printed? ⟨#[37, 115, 32, 110, 101, 101, 100, 115, 32, 37, 100, 32, 98, 121, 116, 101, 115, 44, 32, 37, 100, 32, 114, 101, 109, 97, 105, 110]⟩ 3 = some [(0, 115, false), (1, 100, false), (2, 100, false)] := by kernel_rfl
@[go_sem] theorem fmtAr (w : World) : (FmtDoors.printed ⟨#[37, 115, 32, 110, 101, 101, 100, 115, 32, 37, 100, 32, 98, 121, 116, 101, 115, 44, 32, 37, 100, 32, 114, 101, 109, 97, 105, 110]⟩ 3).run Tryf.prog w = .ok [(0, 115, false), (1, 100, false), (2, 100, false)] w := by kernel_rfl
def fmB : ByteArray := ⟨#[37, 115, 32, 108, 101, 110, 103, 116, 104, 32, 37, 100, 32, 114, 117, 110, 115, 32, 112, 97, 115, 116, 32, 116, 104, 101, 32, 37, 100, 32, 98, 121, 116, 101, 115, 32, 116, 104, 97, 116, 32, 114, 101, 109, 97, 105, 110]⟩
@[go_sem] theorem fmtB : FmtStop.printed? ⟨#[37, 115, 32, 108, 101, 110, 103, 116, 104, 32, 37, 100, 32, 114, 117, 110, 115, 32, 112, 97, 115, 116, 32, 116, 104, 101, 32, 37, 100, 32, 98, 121, 116, 101, 115, 32, 116, 104, 97, 116, 32, 114, 101, 109, 97, 105, 110]⟩ 3 = some [(0, 115, false), (1, 100, false), (2, 100, false)] := by kernel_rfl
@[go_sem] theorem fmtBr (w : World) : (FmtDoors.printed ⟨#[37, 115, 32, 108, 101, 110, 103, 116, 104, 32, 37, 100, 32, 114, 117, 110, 115, 32, 112, 97, 115, 116, 32, 116, 104, 101, 32, 37, 100, 32, 98, 121, 116, 101, 115, 32, 116, 104, 97, 116, 32, 114, 101, 109, 97, 105, 110]⟩ 3).run Tryf.prog w = .ok [(0, 115, false), (1, 100, false), (2, 100, false)] w := by kernel_rfl
def fmC : ByteArray := ⟨#[37, 100, 32, 98, 121, 116, 101, 115, 32, 108, 101, 102, 116, 32, 111, 118, 101, 114, 32, 97, 102, 116, 101, 114, 32, 37, 115]⟩
@[go_sem] theorem fmtC : FmtStop.printed? ⟨#[37, 100, 32, 98, 121, 116, 101, 115, 32, 108, 101, 102, 116, 32, 111, 118, 101, 114, 32, 97, 102, 116, 101, 114, 32, 37, 115]⟩ 2 = some [(0, 100, false), (1, 115, false)] := by kernel_rfl
@[go_sem] theorem fmtCr (w : World) : (FmtDoors.printed ⟨#[37, 100, 32, 98, 121, 116, 101, 115, 32, 108, 101, 102, 116, 32, 111, 118, 101, 114, 32, 97, 102, 116, 101, 114, 32, 37, 115]⟩ 2).run Tryf.prog w = .ok [(0, 100, false), (1, 115, false)] w := by kernel_rfl
def fmW : ByteArray := ⟨#[37, 119, 58, 32, 37, 115]⟩
@[go_sem] theorem fmtW : FmtStop.printed? ⟨#[37, 119, 58, 32, 37, 115]⟩ 2 = some [(0, 119, false), (1, 115, false)] := by kernel_rfl
@[go_sem] theorem fmtWr (w : World) : (FmtDoors.printed ⟨#[37, 119, 58, 32, 37, 115]⟩ 2).run Tryf.prog w = .ok [(0, 119, false), (1, 115, false)] w := by kernel_rfl

def shape9 : List UInt8 := [12, 6, 0, 0, 0, 0, 0, 0, 0, 115, 116, 114, 105, 110, 103]
def shape3 : List UInt8 := [5, 3, 0, 0, 0, 0, 0, 0, 0, 105, 110, 116]
@[go_sem] theorem act9_115 (name : String) (x : Value) (w : World) : (FmtCalls.act name false 115 false (.iface 9 x)).run Tryf.prog w = .ok (.closed false) w := by kernel_rfl
@[go_sem] theorem op9_115 (name : String) (x : ByteArray) (w : World) : (FmtStop.operand name false 115 false (.iface 9 (.string x))).run Tryf.prog w = .ok (shape9, FmtStop.pack x.data.toList) w := by kernel_rfl
@[go_sem] theorem op9_115w (name : String) (x : ByteArray) (w : World) : (FmtStop.operand name true 115 false (.iface 9 (.string x))).run Tryf.prog w = .ok (shape9, FmtStop.pack x.data.toList) w := by kernel_rfl
@[go_sem] theorem act3_100 (name : String) (x : Value) (w : World) : (FmtCalls.act name false 100 false (.iface 3 x)).run Tryf.prog w = .ok (.closed false) w := by kernel_rfl
@[go_sem] theorem op3_100 (name : String) (x : Int) (w : World) : (FmtStop.operand name false 100 false (.iface 3 (.int .i64 x))).run Tryf.prog w = .ok (shape3, Go.Extern.Stop.digits 8 (x % 2 ^ 64).toNat) w := by kernel_rfl
@[go_sem] theorem act52_100 (name : String) (x : Value) (w : World) : (FmtCalls.act name false 100 false (.iface 52 x)).run Tryf.prog w = .ok (.closed false) w := by kernel_rfl
def shape52 : List UInt8 := [9, 6, 0, 0, 0, 0, 0, 0, 0, 117, 105, 110, 116, 54, 52]
@[go_sem] theorem op52_100 (name : String) (x : Int) (w : World) : (FmtStop.operand name false 100 false (.iface 52 (.int .u64 x))).run Tryf.prog w = .ok (shape52, Go.Extern.Stop.digits 8 (x % 2 ^ 64).toNat) w := by kernel_rfl
@[go_sem] theorem str9 (w : World) : (typeStr 9).run Tryf.prog w = .ok "string" w := by kernel_rfl
@[go_sem] theorem str3 (w : World) : (typeStr 3).run Tryf.prog w = .ok "int" w := by kernel_rfl
@[go_sem] theorem str52 (w : World) : (typeStr 52).run Tryf.prog w = .ok "uint64" w := by kernel_rfl

@[go_sem] theorem ptr57 (w : World) : (FmtStop.ptrTo "fmt.wrapError").run Tryf.prog w = .ok 57 w := by kernel_rfl
@[go_sem] theorem elem57 (w : World) : (elemOf 57).run Tryf.prog w = .ok 83 w := by kernel_rfl
@[go_sem] theorem isError57 (w : World) : (FmtDoors.textMethod 57 "Error").run Tryf.prog w = .ok true w := by kernel_rfl
@[go_sem] theorem isError58 (w : World) : (FmtDoors.textMethod 58 "Error").run Tryf.prog w = .ok true w := by kernel_rfl
def nm58 : String := String.singleton (Char.ofNat 42) ++ "errors.errorString"
def plain58 : List UInt8 := 14 :: FmtStop.pack nm58.toUTF8.data.toList
theorem opPlain58_119w (name : String) (a : Addr) (s : ByteArray) (w : World) (hc : w.cell? a = some (.string s)) :
    (FmtStop.operand name true 119 false (.iface 58 (.pointer (some a)))).run Tryf.prog w = .ok (plain58, s.data.toList) w := by
  have h1 : (typeStr 58).run Tryf.prog w = .ok nm58 w := by kernel_rfl
  have d2 : Tryf.t58.desc = .pointer 60 := rfl
  have d3 : Tryf.t60.desc = .named "errors.errorString" 59 := rfl
  simp [FmtStop.operand, h1, d2, d3, run_load, hc, plain58]
end Go.Proofs.Qxb6606217aFmt

/-
  THE CLOSED FACTS FOR A WALK OVER fmt.errorf (a stop that calls its operands' methods) IN THIS DUMP, after the guide's generated texts (HexbadFmt.lean, PortFmt.lean). Each by the kernel.
-/
import Derived.Test.Qxb6001731aFmtRows
import Derived.Stop.CallBack
import Derived.Stop.IfaceNil
import GoSem.ClaimData
namespace Go.Proofs.Qxb6001731aFmt
open Go.Extern.Stop Go.Stop Go.Extern

@[go_sem] theorem call31 (args : Array Value) (w : World) : (callFunc 31 args).run Tryf.prog w = (FmtCalls.errorf #[9, 65] #[24] args).run Tryf.prog w :=
  run_callFunc_next Tryf.func31 (by kernel_rfl) (by kernel_rfl) (by kernel_rfl) args w
@[go_sem] theorem guard (name : String) (w : World) : (FmtStop.guard name).run Tryf.prog w = .ok () w := by kernel_rfl
theorem nextTurns : Extern.next FmtCalls.turnsRow = some (FmtCalls.begun #[] #[]) := by kernel_rfl
theorem nextReturned : Extern.next FmtCalls.returnedRow = some (FmtCalls.returned #[] #[]) := by kernel_rfl

/-- A pointer type's name. -/
def star (s : String) : String := String.singleton (Char.ofNat 42) ++ s

/-! what the walk over each literal format gives -/
def f_limit : ByteArray := ⟨#[37, 115, 58, 32, 116, 104, 101, 32, 108, 105, 109, 105, 116, 32, 109, 117, 115, 116, 32, 98, 101, 32, 97, 116, 32, 108, 101, 97, 115, 116, 32, 49, 44, 32, 110, 111, 116, 32, 37, 100]⟩
@[go_sem] theorem fmt_limit : FmtStop.printed? ⟨#[37, 115, 58, 32, 116, 104, 101, 32, 108, 105, 109, 105, 116, 32, 109, 117, 115, 116, 32, 98, 101, 32, 97, 116, 32, 108, 101, 97, 115, 116, 32, 49, 44, 32, 110, 111, 116, 32, 37, 100]⟩ 2 = some [(0, 115, false), (1, 100, false)] := by kernel_rfl
@[go_sem] theorem fmtr_limit (w : World) : (FmtDoors.printed ⟨#[37, 115, 58, 32, 116, 104, 101, 32, 108, 105, 109, 105, 116, 32, 109, 117, 115, 116, 32, 98, 101, 32, 97, 116, 32, 108, 101, 97, 115, 116, 32, 49, 44, 32, 110, 111, 116, 32, 37, 100]⟩ 2).run Tryf.prog w = .ok [(0, 115, false), (1, 100, false)] w := by kernel_rfl
@[go_sem] theorem fmtd_limit (w : World) : (FmtDoors.printed f_limit 2).run Tryf.prog w = .ok [(0, 115, false), (1, 100, false)] w := by kernel_rfl
@[go_sem] theorem fmtc_limit : f_limit.data.contains 37 = true := by kernel_rfl
def f_window : ByteArray := ⟨#[37, 115, 58, 32, 116, 104, 101, 32, 119, 105, 110, 100, 111, 119, 32, 109, 117, 115, 116, 32, 98, 101, 32, 97, 32, 119, 104, 111, 108, 101, 32, 110, 117, 109, 98, 101, 114, 32, 111, 102, 32, 109, 105, 99, 114, 111, 115, 101, 99, 111, 110, 100, 115, 44, 32, 97, 116, 32, 108, 101, 97, 115, 116, 32, 49, 194, 181, 115, 44, 32, 110, 111, 116, 32, 37, 118]⟩
@[go_sem] theorem fmt_window : FmtStop.printed? ⟨#[37, 115, 58, 32, 116, 104, 101, 32, 119, 105, 110, 100, 111, 119, 32, 109, 117, 115, 116, 32, 98, 101, 32, 97, 32, 119, 104, 111, 108, 101, 32, 110, 117, 109, 98, 101, 114, 32, 111, 102, 32, 109, 105, 99, 114, 111, 115, 101, 99, 111, 110, 100, 115, 44, 32, 97, 116, 32, 108, 101, 97, 115, 116, 32, 49, 194, 181, 115, 44, 32, 110, 111, 116, 32, 37, 118]⟩ 2 = some [(0, 115, false), (1, 118, false)] := by kernel_rfl
@[go_sem] theorem fmtr_window (w : World) : (FmtDoors.printed ⟨#[37, 115, 58, 32, 116, 104, 101, 32, 119, 105, 110, 100, 111, 119, 32, 109, 117, 115, 116, 32, 98, 101, 32, 97, 32, 119, 104, 111, 108, 101, 32, 110, 117, 109, 98, 101, 114, 32, 111, 102, 32, 109, 105, 99, 114, 111, 115, 101, 99, 111, 110, 100, 115, 44, 32, 97, 116, 32, 108, 101, 97, 115, 116, 32, 49, 194, 181, 115, 44, 32, 110, 111, 116, 32, 37, 118]⟩ 2).run Tryf.prog w = .ok [(0, 115, false), (1, 118, false)] w := by kernel_rfl
@[go_sem] theorem fmtd_window (w : World) : (FmtDoors.printed f_window 2).run Tryf.prog w = .ok [(0, 115, false), (1, 118, false)] w := by kernel_rfl
@[go_sem] theorem fmtc_window : f_window.data.contains 37 = true := by kernel_rfl
def f_bucket : ByteArray := ⟨#[114, 111, 108, 108, 105, 110, 103, 58, 32, 116, 104, 101, 32, 119, 105, 110, 100, 111, 119, 32, 109, 117, 115, 116, 32, 98, 101, 32, 99, 117, 116, 32, 105, 110, 116, 111, 32, 97, 116, 32, 108, 101, 97, 115, 116, 32, 49, 32, 98, 117, 99, 107, 101, 116, 44, 32, 110, 111, 116, 32, 37, 100]⟩
@[go_sem] theorem fmt_bucket : FmtStop.printed? ⟨#[114, 111, 108, 108, 105, 110, 103, 58, 32, 116, 104, 101, 32, 119, 105, 110, 100, 111, 119, 32, 109, 117, 115, 116, 32, 98, 101, 32, 99, 117, 116, 32, 105, 110, 116, 111, 32, 97, 116, 32, 108, 101, 97, 115, 116, 32, 49, 32, 98, 117, 99, 107, 101, 116, 44, 32, 110, 111, 116, 32, 37, 100]⟩ 1 = some [(0, 100, false)] := by kernel_rfl
@[go_sem] theorem fmtr_bucket (w : World) : (FmtDoors.printed ⟨#[114, 111, 108, 108, 105, 110, 103, 58, 32, 116, 104, 101, 32, 119, 105, 110, 100, 111, 119, 32, 109, 117, 115, 116, 32, 98, 101, 32, 99, 117, 116, 32, 105, 110, 116, 111, 32, 97, 116, 32, 108, 101, 97, 115, 116, 32, 49, 32, 98, 117, 99, 107, 101, 116, 44, 32, 110, 111, 116, 32, 37, 100]⟩ 1).run Tryf.prog w = .ok [(0, 100, false)] w := by kernel_rfl
@[go_sem] theorem fmtd_bucket (w : World) : (FmtDoors.printed f_bucket 1).run Tryf.prog w = .ok [(0, 100, false)] w := by kernel_rfl
@[go_sem] theorem fmtc_bucket : f_bucket.data.contains 37 = true := by kernel_rfl
def f_cut : ByteArray := ⟨#[114, 111, 108, 108, 105, 110, 103, 58, 32, 97, 32, 119, 105, 110, 100, 111, 119, 32, 111, 102, 32, 37, 118, 32, 100, 111, 101, 115, 32, 110, 111, 116, 32, 99, 117, 116, 32, 105, 110, 116, 111, 32, 37, 100, 32, 98, 117, 99, 107, 101, 116, 115, 32, 111, 102, 32, 119, 104, 111, 108, 101, 32, 109, 105, 99, 114, 111, 115, 101, 99, 111, 110, 100, 115]⟩
@[go_sem] theorem fmt_cut : FmtStop.printed? ⟨#[114, 111, 108, 108, 105, 110, 103, 58, 32, 97, 32, 119, 105, 110, 100, 111, 119, 32, 111, 102, 32, 37, 118, 32, 100, 111, 101, 115, 32, 110, 111, 116, 32, 99, 117, 116, 32, 105, 110, 116, 111, 32, 37, 100, 32, 98, 117, 99, 107, 101, 116, 115, 32, 111, 102, 32, 119, 104, 111, 108, 101, 32, 109, 105, 99, 114, 111, 115, 101, 99, 111, 110, 100, 115]⟩ 2 = some [(0, 118, false), (1, 100, false)] := by kernel_rfl
@[go_sem] theorem fmtr_cut (w : World) : (FmtDoors.printed ⟨#[114, 111, 108, 108, 105, 110, 103, 58, 32, 97, 32, 119, 105, 110, 100, 111, 119, 32, 111, 102, 32, 37, 118, 32, 100, 111, 101, 115, 32, 110, 111, 116, 32, 99, 117, 116, 32, 105, 110, 116, 111, 32, 37, 100, 32, 98, 117, 99, 107, 101, 116, 115, 32, 111, 102, 32, 119, 104, 111, 108, 101, 32, 109, 105, 99, 114, 111, 115, 101, 99, 111, 110, 100, 115]⟩ 2).run Tryf.prog w = .ok [(0, 118, false), (1, 100, false)] w := by kernel_rfl
@[go_sem] theorem fmtd_cut (w : World) : (FmtDoors.printed f_cut 2).run Tryf.prog w = .ok [(0, 118, false), (1, 100, false)] w := by kernel_rfl
@[go_sem] theorem fmtc_cut : f_cut.data.contains 37 = true := by kernel_rfl
def f_rate : ByteArray := ⟨#[114, 97, 116, 101, 32, 37, 113, 58, 32, 37, 119]⟩
@[go_sem] theorem fmt_rate : FmtStop.printed? ⟨#[114, 97, 116, 101, 32, 37, 113, 58, 32, 37, 119]⟩ 2 = some [(0, 113, false), (1, 119, false)] := by kernel_rfl
@[go_sem] theorem fmtr_rate (w : World) : (FmtDoors.printed ⟨#[114, 97, 116, 101, 32, 37, 113, 58, 32, 37, 119]⟩ 2).run Tryf.prog w = .ok [(0, 113, false), (1, 119, false)] w := by kernel_rfl
@[go_sem] theorem fmtd_rate (w : World) : (FmtDoors.printed f_rate 2).run Tryf.prog w = .ok [(0, 113, false), (1, 119, false)] w := by kernel_rfl
@[go_sem] theorem fmtc_rate : f_rate.data.contains 37 = true := by kernel_rfl
def f_funnel : ByteArray := ⟨#[102, 117, 110, 110, 101, 108, 58, 32, 37, 119]⟩
@[go_sem] theorem fmt_funnel : FmtStop.printed? ⟨#[102, 117, 110, 110, 101, 108, 58, 32, 37, 119]⟩ 1 = some [(0, 119, false)] := by kernel_rfl
@[go_sem] theorem fmtr_funnel (w : World) : (FmtDoors.printed ⟨#[102, 117, 110, 110, 101, 108, 58, 32, 37, 119]⟩ 1).run Tryf.prog w = .ok [(0, 119, false)] w := by kernel_rfl
@[go_sem] theorem fmtd_funnel (w : World) : (FmtDoors.printed f_funnel 1).run Tryf.prog w = .ok [(0, 119, false)] w := by kernel_rfl
@[go_sem] theorem fmtc_funnel : f_funnel.data.contains 37 = true := by kernel_rfl
def f_cap : ByteArray := ⟨#[102, 117, 110, 110, 101, 108, 58, 32, 116, 104, 101, 32, 99, 97, 112, 97, 99, 105, 116, 121, 32, 109, 117, 115, 116, 32, 98, 101, 32, 97, 116, 32, 108, 101, 97, 115, 116, 32, 49, 44, 32, 110, 111, 116, 32, 37, 100]⟩
@[go_sem] theorem fmt_cap : FmtStop.printed? ⟨#[102, 117, 110, 110, 101, 108, 58, 32, 116, 104, 101, 32, 99, 97, 112, 97, 99, 105, 116, 121, 32, 109, 117, 115, 116, 32, 98, 101, 32, 97, 116, 32, 108, 101, 97, 115, 116, 32, 49, 44, 32, 110, 111, 116, 32, 37, 100]⟩ 1 = some [(0, 100, false)] := by kernel_rfl
@[go_sem] theorem fmtr_cap (w : World) : (FmtDoors.printed ⟨#[102, 117, 110, 110, 101, 108, 58, 32, 116, 104, 101, 32, 99, 97, 112, 97, 99, 105, 116, 121, 32, 109, 117, 115, 116, 32, 98, 101, 32, 97, 116, 32, 108, 101, 97, 115, 116, 32, 49, 44, 32, 110, 111, 116, 32, 37, 100]⟩ 1).run Tryf.prog w = .ok [(0, 100, false)] w := by kernel_rfl
@[go_sem] theorem fmtd_cap (w : World) : (FmtDoors.printed f_cap 1).run Tryf.prog w = .ok [(0, 100, false)] w := by kernel_rfl
@[go_sem] theorem fmtc_cap : f_cap.data.contains 37 = true := by kernel_rfl
def f_burst : ByteArray := ⟨#[102, 117, 110, 110, 101, 108, 58, 32, 99, 97, 112, 97, 99, 105, 116, 121, 32, 37, 100, 32, 97, 116, 32, 37, 118, 32, 105, 115, 32, 97, 32, 98, 117, 114, 115, 116, 32, 108, 111, 110, 103, 101, 114, 32, 116, 104, 97, 110, 32, 37, 118]⟩
@[go_sem] theorem fmt_burst : FmtStop.printed? ⟨#[102, 117, 110, 110, 101, 108, 58, 32, 99, 97, 112, 97, 99, 105, 116, 121, 32, 37, 100, 32, 97, 116, 32, 37, 118, 32, 105, 115, 32, 97, 32, 98, 117, 114, 115, 116, 32, 108, 111, 110, 103, 101, 114, 32, 116, 104, 97, 110, 32, 37, 118]⟩ 3 = some [(0, 100, false), (1, 118, false), (2, 118, false)] := by kernel_rfl
@[go_sem] theorem fmtr_burst (w : World) : (FmtDoors.printed ⟨#[102, 117, 110, 110, 101, 108, 58, 32, 99, 97, 112, 97, 99, 105, 116, 121, 32, 37, 100, 32, 97, 116, 32, 37, 118, 32, 105, 115, 32, 97, 32, 98, 117, 114, 115, 116, 32, 108, 111, 110, 103, 101, 114, 32, 116, 104, 97, 110, 32, 37, 118]⟩ 3).run Tryf.prog w = .ok [(0, 100, false), (1, 118, false), (2, 118, false)] w := by kernel_rfl
@[go_sem] theorem fmtd_burst (w : World) : (FmtDoors.printed f_burst 3).run Tryf.prog w = .ok [(0, 100, false), (1, 118, false), (2, 118, false)] w := by kernel_rfl
@[go_sem] theorem fmtc_burst : f_burst.data.contains 37 = true := by kernel_rfl

/-! what each operand type reads as -/
def shape3 : List UInt8 := [5, 3, 0, 0, 0, 0, 0, 0, 0, 105, 110, 116]
def shape9 : List UInt8 := [12, 6, 0, 0, 0, 0, 0, 0, 0, 115, 116, 114, 105, 110, 103]
@[go_sem] theorem act3_100 (name : String) (x : Value) (w : World) : (FmtCalls.act name true 100 false (.iface 3 x)).run Tryf.prog w = .ok (.closed true) w := by kernel_rfl
@[go_sem] theorem op3_100 (name : String) (x : Int) (w : World) : (FmtStop.operand name true 100 false (.iface 3 (.int .i64 x))).run Tryf.prog w = .ok (shape3, Go.Extern.Stop.digits 8 (x % 2 ^ 64).toNat) w := by kernel_rfl
@[go_sem] theorem act3_118 (name : String) (x : Value) (w : World) : (FmtCalls.act name true 118 false (.iface 3 x)).run Tryf.prog w = .ok (.closed true) w := by kernel_rfl
@[go_sem] theorem op3_118 (name : String) (x : Int) (w : World) : (FmtStop.operand name true 118 false (.iface 3 (.int .i64 x))).run Tryf.prog w = .ok (shape3, Go.Extern.Stop.digits 8 (x % 2 ^ 64).toNat) w := by kernel_rfl
@[go_sem] theorem act9_115 (name : String) (x : Value) (w : World) : (FmtCalls.act name true 115 false (.iface 9 x)).run Tryf.prog w = .ok (.closed true) w := by kernel_rfl
@[go_sem] theorem op9_115 (name : String) (x : ByteArray) (w : World) : (FmtStop.operand name true 115 false (.iface 9 (.string x))).run Tryf.prog w = .ok (shape9, FmtStop.pack x.data.toList) w := by kernel_rfl
@[go_sem] theorem act9_113 (name : String) (x : Value) (w : World) : (FmtCalls.act name true 113 false (.iface 9 x)).run Tryf.prog w = .ok (.closed true) w := by kernel_rfl
@[go_sem] theorem op9_113 (name : String) (x : ByteArray) (w : World) : (FmtStop.operand name true 113 false (.iface 9 (.string x))).run Tryf.prog w = .ok (shape9, FmtStop.pack x.data.toList) w := by kernel_rfl
@[go_sem] theorem act9_118 (name : String) (x : Value) (w : World) : (FmtCalls.act name true 118 false (.iface 9 x)).run Tryf.prog w = .ok (.closed true) w := by kernel_rfl
@[go_sem] theorem op9_118 (name : String) (x : ByteArray) (w : World) : (FmtStop.operand name true 118 false (.iface 9 (.string x))).run Tryf.prog w = .ok (shape9, FmtStop.pack x.data.toList) w := by kernel_rfl
@[go_sem] theorem act26_118 (name : String) (x : Value) (w : World) : (FmtCalls.act name true 118 false (.iface 26 x)).run Tryf.prog w = .ok (.call false) w := by kernel_rfl
theorem invoke26 (x : Value) (w : World) : (invoke (.fn (.method "String") #[]) #[.iface 26 x]).run Tryf.prog w = .ok (.enter 28 #[x]) w := by kernel_rfl
@[go_sem] theorem str26 (w : World) : (typeStr 26).run Tryf.prog w = .ok "time.Duration" w := by kernel_rfl
@[go_sem] theorem act28_118 (name : String) (x : Value) (w : World) : (FmtCalls.act name true 118 false (.iface 28 x)).run Tryf.prog w = .ok (.call false) w := by kernel_rfl
theorem invoke28 (x : Value) (w : World) : (invoke (.fn (.method "String") #[]) #[.iface 28 x]).run Tryf.prog w = .ok (.enter 20 #[x]) w := by kernel_rfl
@[go_sem] theorem str28 (w : World) : (typeStr 28).run Tryf.prog w = .ok "allow5.Rate" w := by kernel_rfl
@[go_sem] theorem ptr61 (w : World) : (FmtStop.ptrTo "errors.errorString").run Tryf.prog w = .ok 61 w := by kernel_rfl
@[go_sem] theorem elem61 (w : World) : (elemOf 61).run Tryf.prog w = .ok 63 w := by kernel_rfl
@[go_sem] theorem isError61 (w : World) : (FmtDoors.textMethod 61 "Error").run Tryf.prog w = .ok true w := by kernel_rfl
def plain61 : List UInt8 := 14 :: FmtStop.pack (star "errors.errorString").toUTF8.data.toList
@[go_sem] theorem act61_119 (name : String) (x : Value) (w : World) : (FmtCalls.act name true 119 false (.iface 61 x)).run Tryf.prog w = .ok (.closed true) w := by kernel_rfl
theorem op61_119 (name : String) (a : Addr) (s : ByteArray) (w : World) (hc : w.cell? a = some (.string s)) :
    (FmtStop.operand name true 119 false (.iface 61 (.pointer (some a)))).run Tryf.prog w = .ok (plain61, s.data.toList) w := by
  have h1 : (typeStr 61).run Tryf.prog w = .ok (star "errors.errorString") w := by kernel_rfl
  have d2 : Tryf.t61.desc = .pointer 63 := rfl
  have d3 : Tryf.t63.desc = .named "errors.errorString" 62 := rfl
  simp [FmtStop.operand, h1, d2, d3, run_load, hc, plain61]
@[go_sem] theorem ptr66 (w : World) : (FmtStop.ptrTo "fmt.wrapError").run Tryf.prog w = .ok 66 w := by kernel_rfl
@[go_sem] theorem elem66 (w : World) : (elemOf 66).run Tryf.prog w = .ok 105 w := by kernel_rfl
@[go_sem] theorem isError66 (w : World) : (FmtDoors.textMethod 66 "Error").run Tryf.prog w = .ok true w := by kernel_rfl
def plain66 : List UInt8 := 14 :: FmtStop.pack (star "fmt.wrapError").toUTF8.data.toList
@[go_sem] theorem act66_119 (name : String) (x : Value) (w : World) : (FmtCalls.act name true 119 false (.iface 66 x)).run Tryf.prog w = .ok (.closed true) w := by kernel_rfl
theorem op66_119 (name : String) (a : Addr) (s : ByteArray) (w : World) (hc : w.cell? a = some (.string s)) :
    (FmtStop.operand name true 119 false (.iface 66 (.pointer (some a)))).run Tryf.prog w = .ok (plain66, s.data.toList) w := by
  have h1 : (typeStr 66).run Tryf.prog w = .ok (star "fmt.wrapError") w := by kernel_rfl
  have d2 : Tryf.t66.desc = .pointer 105 := rfl
  have d3 : Tryf.t105.desc = .named "fmt.wrapError" 104 := rfl
  simp [FmtStop.operand, h1, d2, d3, run_load, hc, plain66]
end Go.Proofs.Qxb6001731aFmt

import Derived.Test.YbulkbzsuFmtRows
import Derived.Stop.CallBack
import Derived.Stop.IfaceNil
import Derived.WalkKit
import Derived.WalkSpells
import Derived.BigCall
import GoSem.ClaimData
namespace Go.Proofs.YbulkbzsuFmt
open Go.RowKit Go.Extern.Stop Go.Stop Go.Extern
set_option linter.unusedVariables false

@[go_sem] theorem Ybaf.call33 (args : Array Value) (w : World) : (callFunc 33 args).run Ybaf.prog w = (FmtCalls.errorf #[9, 73] #[26] args).run Ybaf.prog w :=
  run_callFunc_next Ybaf.func33 (by kernel_rfl) (by kernel_rfl) (by kernel_rfl) args w
@[go_sem] theorem Ybaf.call45 (args : Array Value) (w : World) : (callFunc 45 args).run Ybaf.prog w = (FmtCalls.sprintf #[9, 73] #[9] args).run Ybaf.prog w :=
  run_callFunc_next Ybaf.func45 (by kernel_rfl) (by kernel_rfl) (by kernel_rfl) args w
@[go_sem] theorem Ybaf.guard (name : String) (w : World) : (FmtStop.guard name).run Ybaf.prog w = .ok () w := by kernel_rfl
theorem Ybaf.nextTurns : Extern.next FmtCalls.turnsRow = some (FmtCalls.begun #[] #[]) := by kernel_rfl
theorem Ybaf.nextReturned : Extern.next FmtCalls.returnedRow = some (FmtCalls.returned #[] #[]) := by kernel_rfl

abbrev txtF0 : ByteArray := ⟨#[116, 104, 101, 114, 101, 32, 105, 115, 32, 110, 111, 32, 115, 116, 97, 109, 112]⟩
@[go_sem] theorem Ybaf.fmtF0 : FmtStop.printed? ⟨#[116, 104, 101, 114, 101, 32, 105, 115, 32, 110, 111, 32, 115, 116, 97, 109, 112]⟩ 0 = some [] := by kernel_rfl
@[go_sem] theorem Ybaf.fmtF0r (w : World) : (FmtDoors.printed ⟨#[116, 104, 101, 114, 101, 32, 105, 115, 32, 110, 111, 32, 115, 116, 97, 109, 112]⟩ 0).run Ybaf.prog w = .ok [] w := by kernel_rfl
abbrev txtF1 : ByteArray := ⟨#[102, 111, 114, 109, 32, 37, 100, 32, 105, 115, 32, 116, 104, 101, 32, 110, 97, 109, 101, 100, 32, 102, 111, 114, 109, 44, 32, 119, 104, 105, 99, 104, 32, 68, 101, 99, 111, 100, 101, 83, 116, 97, 109, 112, 32, 114, 101, 97, 100, 115]⟩
@[go_sem] theorem Ybaf.fmtF1 : FmtStop.printed? ⟨#[102, 111, 114, 109, 32, 37, 100, 32, 105, 115, 32, 116, 104, 101, 32, 110, 97, 109, 101, 100, 32, 102, 111, 114, 109, 44, 32, 119, 104, 105, 99, 104, 32, 68, 101, 99, 111, 100, 101, 83, 116, 97, 109, 112, 32, 114, 101, 97, 100, 115]⟩ 1 = some [(0, 100, false)] := by kernel_rfl
@[go_sem] theorem Ybaf.fmtF1r (w : World) : (FmtDoors.printed ⟨#[102, 111, 114, 109, 32, 37, 100, 32, 105, 115, 32, 116, 104, 101, 32, 110, 97, 109, 101, 100, 32, 102, 111, 114, 109, 44, 32, 119, 104, 105, 99, 104, 32, 68, 101, 99, 111, 100, 101, 83, 116, 97, 109, 112, 32, 114, 101, 97, 100, 115]⟩ 1).run Ybaf.prog w = .ok [(0, 100, false)] w := by kernel_rfl
abbrev txtF2 : ByteArray := ⟨#[102, 111, 114, 109, 32, 37, 100, 32, 105, 115, 32, 116, 104, 101, 32, 110, 117, 109, 98, 101, 114, 101, 100, 32, 102, 111, 114, 109, 44, 32, 119, 104, 105, 99, 104, 32, 97, 32, 82, 111, 115, 116, 101, 114, 32, 114, 101, 97, 100, 115]⟩
@[go_sem] theorem Ybaf.fmtF2 : FmtStop.printed? ⟨#[102, 111, 114, 109, 32, 37, 100, 32, 105, 115, 32, 116, 104, 101, 32, 110, 117, 109, 98, 101, 114, 101, 100, 32, 102, 111, 114, 109, 44, 32, 119, 104, 105, 99, 104, 32, 97, 32, 82, 111, 115, 116, 101, 114, 32, 114, 101, 97, 100, 115]⟩ 1 = some [(0, 100, false)] := by kernel_rfl
@[go_sem] theorem Ybaf.fmtF2r (w : World) : (FmtDoors.printed ⟨#[102, 111, 114, 109, 32, 37, 100, 32, 105, 115, 32, 116, 104, 101, 32, 110, 117, 109, 98, 101, 114, 101, 100, 32, 102, 111, 114, 109, 44, 32, 119, 104, 105, 99, 104, 32, 97, 32, 82, 111, 115, 116, 101, 114, 32, 114, 101, 97, 100, 115]⟩ 1).run Ybaf.prog w = .ok [(0, 100, false)] w := by kernel_rfl
abbrev txtF3 : ByteArray := ⟨#[102, 111, 114, 109, 32, 37, 100, 32, 105, 115, 32, 116, 104, 101, 32, 100, 105, 102, 102, 101, 114, 101, 110, 116, 105, 97, 108, 32, 102, 111, 114, 109, 44, 32, 119, 104, 105, 99, 104, 32, 97, 32, 82, 111, 115, 116, 101, 114, 32, 114, 101, 97, 100, 115, 32, 97, 103, 97, 105, 110, 115, 116, 32, 116, 104, 101, 32, 115, 116, 97, 109, 112, 32, 98, 101, 102, 111, 114, 101, 32, 105, 116]⟩
@[go_sem] theorem Ybaf.fmtF3 : FmtStop.printed? ⟨#[102, 111, 114, 109, 32, 37, 100, 32, 105, 115, 32, 116, 104, 101, 32, 100, 105, 102, 102, 101, 114, 101, 110, 116, 105, 97, 108, 32, 102, 111, 114, 109, 44, 32, 119, 104, 105, 99, 104, 32, 97, 32, 82, 111, 115, 116, 101, 114, 32, 114, 101, 97, 100, 115, 32, 97, 103, 97, 105, 110, 115, 116, 32, 116, 104, 101, 32, 115, 116, 97, 109, 112, 32, 98, 101, 102, 111, 114, 101, 32, 105, 116]⟩ 1 = some [(0, 100, false)] := by kernel_rfl
@[go_sem] theorem Ybaf.fmtF3r (w : World) : (FmtDoors.printed ⟨#[102, 111, 114, 109, 32, 37, 100, 32, 105, 115, 32, 116, 104, 101, 32, 100, 105, 102, 102, 101, 114, 101, 110, 116, 105, 97, 108, 32, 102, 111, 114, 109, 44, 32, 119, 104, 105, 99, 104, 32, 97, 32, 82, 111, 115, 116, 101, 114, 32, 114, 101, 97, 100, 115, 32, 97, 103, 97, 105, 110, 115, 116, 32, 116, 104, 101, 32, 115, 116, 97, 109, 112, 32, 98, 101, 102, 111, 114, 101, 32, 105, 116]⟩ 1).run Ybaf.prog w = .ok [(0, 100, false)] w := by kernel_rfl
abbrev txtF4 : ByteArray := ⟨#[102, 111, 114, 109, 32, 37, 100, 32, 105, 115, 32, 117, 110, 107, 110, 111, 119, 110, 58, 32, 76, 97, 109, 112, 108, 105, 103, 104, 116, 39, 115, 32, 115, 116, 97, 109, 112, 115, 32, 97, 114, 101, 32, 111, 102, 32, 102, 111, 114, 109, 115, 32, 37, 100, 32, 116, 111, 32, 37, 100]⟩
@[go_sem] theorem Ybaf.fmtF4 : FmtStop.printed? ⟨#[102, 111, 114, 109, 32, 37, 100, 32, 105, 115, 32, 117, 110, 107, 110, 111, 119, 110, 58, 32, 76, 97, 109, 112, 108, 105, 103, 104, 116, 39, 115, 32, 115, 116, 97, 109, 112, 115, 32, 97, 114, 101, 32, 111, 102, 32, 102, 111, 114, 109, 115, 32, 37, 100, 32, 116, 111, 32, 37, 100]⟩ 3 = some [(0, 100, false), (1, 100, false), (2, 100, false)] := by kernel_rfl
@[go_sem] theorem Ybaf.fmtF4r (w : World) : (FmtDoors.printed ⟨#[102, 111, 114, 109, 32, 37, 100, 32, 105, 115, 32, 117, 110, 107, 110, 111, 119, 110, 58, 32, 76, 97, 109, 112, 108, 105, 103, 104, 116, 39, 115, 32, 115, 116, 97, 109, 112, 115, 32, 97, 114, 101, 32, 111, 102, 32, 102, 111, 114, 109, 115, 32, 37, 100, 32, 116, 111, 32, 37, 100]⟩ 3).run Ybaf.prog w = .ok [(0, 100, false), (1, 100, false), (2, 100, false)] w := by kernel_rfl
abbrev txtF5 : ByteArray := ⟨#[37, 115, 32, 37, 118]⟩
@[go_sem] theorem Ybaf.fmtF5 : FmtStop.printed? ⟨#[37, 115, 32, 37, 118]⟩ 2 = some [(0, 115, false), (1, 118, false)] := by kernel_rfl
@[go_sem] theorem Ybaf.fmtF5r (w : World) : (FmtDoors.printed ⟨#[37, 115, 32, 37, 118]⟩ 2).run Ybaf.prog w = .ok [(0, 115, false), (1, 118, false)] w := by kernel_rfl
abbrev txtF6 : ByteArray := ⟨#[37, 100, 32, 101, 110, 116, 114, 105, 101, 115, 32, 99, 97, 110, 110, 111, 116, 32, 102, 105, 116, 32, 105, 110, 32, 116, 104, 101, 32, 37, 100, 32, 98, 121, 116, 101, 115, 32, 116, 104, 97, 116, 32, 102, 111, 108, 108, 111, 119]⟩
@[go_sem] theorem Ybaf.fmtF6 : FmtStop.printed? ⟨#[37, 100, 32, 101, 110, 116, 114, 105, 101, 115, 32, 99, 97, 110, 110, 111, 116, 32, 102, 105, 116, 32, 105, 110, 32, 116, 104, 101, 32, 37, 100, 32, 98, 121, 116, 101, 115, 32, 116, 104, 97, 116, 32, 102, 111, 108, 108, 111, 119]⟩ 2 = some [(0, 100, false), (1, 100, false)] := by kernel_rfl
@[go_sem] theorem Ybaf.fmtF6r (w : World) : (FmtDoors.printed ⟨#[37, 100, 32, 101, 110, 116, 114, 105, 101, 115, 32, 99, 97, 110, 110, 111, 116, 32, 102, 105, 116, 32, 105, 110, 32, 116, 104, 101, 32, 37, 100, 32, 98, 121, 116, 101, 115, 32, 116, 104, 97, 116, 32, 102, 111, 108, 108, 111, 119]⟩ 2).run Ybaf.prog w = .ok [(0, 100, false), (1, 100, false)] w := by kernel_rfl
abbrev txtF7 : ByteArray := ⟨#[37, 115, 32, 37, 100, 32, 105, 115, 32, 110, 111, 116, 32, 98, 101, 108, 111, 119, 32, 116, 104, 101, 32, 37, 100, 32, 101, 110, 116, 114, 105, 101, 115]⟩
@[go_sem] theorem Ybaf.fmtF7 : FmtStop.printed? ⟨#[37, 115, 32, 37, 100, 32, 105, 115, 32, 110, 111, 116, 32, 98, 101, 108, 111, 119, 32, 116, 104, 101, 32, 37, 100, 32, 101, 110, 116, 114, 105, 101, 115]⟩ 3 = some [(0, 115, false), (1, 100, false), (2, 100, false)] := by kernel_rfl
@[go_sem] theorem Ybaf.fmtF7r (w : World) : (FmtDoors.printed ⟨#[37, 115, 32, 37, 100, 32, 105, 115, 32, 110, 111, 116, 32, 98, 101, 108, 111, 119, 32, 116, 104, 101, 32, 37, 100, 32, 101, 110, 116, 114, 105, 101, 115]⟩ 3).run Ybaf.prog w = .ok [(0, 115, false), (1, 100, false), (2, 100, false)] w := by kernel_rfl
abbrev txtFE : ByteArray := ⟨#[37, 119, 32, 97, 116, 32, 98, 121, 116, 101, 32, 37, 100, 58, 32, 37, 115]⟩
@[go_sem] theorem Ybaf.fmtFE : FmtStop.printed? ⟨#[37, 119, 32, 97, 116, 32, 98, 121, 116, 101, 32, 37, 100, 58, 32, 37, 115]⟩ 3 = some [(0, 119, false), (1, 100, false), (2, 115, false)] := by kernel_rfl
@[go_sem] theorem Ybaf.fmtFEr (w : World) : (FmtDoors.printed ⟨#[37, 119, 32, 97, 116, 32, 98, 121, 116, 101, 32, 37, 100, 58, 32, 37, 115]⟩ 3).run Ybaf.prog w = .ok [(0, 119, false), (1, 100, false), (2, 115, false)] w := by kernel_rfl
def Ybaf.shape3 : List UInt8 := [5, 3, 0, 0, 0, 0, 0, 0, 0, 105, 110, 116]
@[go_sem] theorem Ybaf.act3_100 (name : String) (x : Value) (w : World) : (FmtCalls.act name false 100 false (.iface 3 x)).run Ybaf.prog w = .ok (.closed false) w := by kernel_rfl
@[go_sem] theorem Ybaf.op3_100 (name : String) (x : Int) (w : World) : (FmtStop.operand name false 100 false (.iface 3 (.int .i64 x))).run Ybaf.prog w = .ok (Ybaf.shape3, Go.Extern.Stop.digits 8 (x % 2 ^ 64).toNat) w := by kernel_rfl
@[go_sem] theorem Ybaf.act3_100w (name : String) (x : Value) (w : World) : (FmtCalls.act name true 100 false (.iface 3 x)).run Ybaf.prog w = .ok (.closed true) w := by kernel_rfl
@[go_sem] theorem Ybaf.op3_100w (name : String) (x : Int) (w : World) : (FmtStop.operand name true 100 false (.iface 3 (.int .i64 x))).run Ybaf.prog w = .ok (Ybaf.shape3, Go.Extern.Stop.digits 8 (x % 2 ^ 64).toNat) w := by kernel_rfl
def Ybaf.shape5 : List UInt8 := [6, 5, 0, 0, 0, 0, 0, 0, 0, 117, 105, 110, 116, 56]
@[go_sem] theorem Ybaf.act5_100 (name : String) (x : Value) (w : World) : (FmtCalls.act name false 100 false (.iface 5 x)).run Ybaf.prog w = .ok (.closed false) w := by kernel_rfl
@[go_sem] theorem Ybaf.op5_100 (name : String) (x : Int) (w : World) : (FmtStop.operand name false 100 false (.iface 5 (.int .u8 x))).run Ybaf.prog w = .ok (Ybaf.shape5, Go.Extern.Stop.digits 8 (x % 2 ^ 64).toNat) w := by kernel_rfl
def Ybaf.shape22 : List UInt8 := [9, 6, 0, 0, 0, 0, 0, 0, 0, 117, 105, 110, 116, 54, 52]
@[go_sem] theorem Ybaf.act22_100 (name : String) (x : Value) (w : World) : (FmtCalls.act name false 100 false (.iface 22 x)).run Ybaf.prog w = .ok (.closed false) w := by kernel_rfl
@[go_sem] theorem Ybaf.op22_100 (name : String) (x : Int) (w : World) : (FmtStop.operand name false 100 false (.iface 22 (.int .u64 x))).run Ybaf.prog w = .ok (Ybaf.shape22, Go.Extern.Stop.digits 8 (x % 2 ^ 64).toNat) w := by kernel_rfl
def Ybaf.shape9 : List UInt8 := [12, 6, 0, 0, 0, 0, 0, 0, 0, 115, 116, 114, 105, 110, 103]
@[go_sem] theorem Ybaf.act9_115 (name : String) (x : Value) (w : World) : (FmtCalls.act name false 115 false (.iface 9 x)).run Ybaf.prog w = .ok (.closed false) w := by kernel_rfl
@[go_sem] theorem Ybaf.op9_115 (name : String) (x : ByteArray) (w : World) : (FmtStop.operand name false 115 false (.iface 9 (.string x))).run Ybaf.prog w = .ok (Ybaf.shape9, FmtStop.pack x.data.toList) w := by kernel_rfl
@[go_sem] theorem Ybaf.act9_115w (name : String) (x : Value) (w : World) : (FmtCalls.act name true 115 false (.iface 9 x)).run Ybaf.prog w = .ok (.closed true) w := by kernel_rfl
@[go_sem] theorem Ybaf.op9_115w (name : String) (x : ByteArray) (w : World) : (FmtStop.operand name true 115 false (.iface 9 (.string x))).run Ybaf.prog w = .ok (Ybaf.shape9, FmtStop.pack x.data.toList) w := by kernel_rfl

-- errors of errors.New's make, and what fmt.errorf makes
@[go_sem] theorem Ybaf.ptr61 (w : World) : (FmtStop.ptrTo "errors.errorString").run Ybaf.prog w = .ok 61 w := by kernel_rfl
@[go_sem] theorem Ybaf.elem61 (w : World) : (elemOf 61).run Ybaf.prog w = .ok 63 w := by kernel_rfl
@[go_sem] theorem Ybaf.isError61 (w : World) : (FmtDoors.textMethod 61 "Error").run Ybaf.prog w = .ok true w := by kernel_rfl
theorem Ybaf.name61 : Ybaf.prog.typeName? 3 61 = some "*errors.errorString" := by kernel_rfl
def Ybaf.plain61 : List UInt8 := 14 :: FmtStop.pack "*errors.errorString".toUTF8.data.toList
theorem Ybaf.opPlain61_118 (name : String) (a : Addr) (s : ByteArray) (w : World) (hc : w.cell? a = some (.string s)) :
    (FmtStop.operand name false 118 false (.iface 61 (.pointer (some a)))).run Ybaf.prog w = .ok (Ybaf.plain61, s.data.toList) w := by
  have h1 : (typeStr 61).run Ybaf.prog w = .ok "*errors.errorString" w := by kernel_rfl
  have d2 : Ybaf.t61.desc = .pointer 63 := rfl
  have d3 : Ybaf.t63.desc = .named "errors.errorString" 62 := rfl
  simp [FmtStop.operand, h1, d2, d3, run_load, hc, Ybaf.plain61]
@[go_sem] theorem Ybaf.actPlain61_118 (name : String) (x : Value) (w : World) : (FmtCalls.act name false 118 false (.iface 61 x)).run Ybaf.prog w = .ok (.closed false) w := by kernel_rfl
theorem Ybaf.opPlain61_119w (name : String) (a : Addr) (s : ByteArray) (w : World) (hc : w.cell? a = some (.string s)) :
    (FmtStop.operand name true 119 false (.iface 61 (.pointer (some a)))).run Ybaf.prog w = .ok (Ybaf.plain61, s.data.toList) w := by
  have h1 : (typeStr 61).run Ybaf.prog w = .ok "*errors.errorString" w := by kernel_rfl
  have d2 : Ybaf.t61.desc = .pointer 63 := rfl
  have d3 : Ybaf.t63.desc = .named "errors.errorString" 62 := rfl
  simp [FmtStop.operand, h1, d2, d3, run_load, hc, Ybaf.plain61]
@[go_sem] theorem Ybaf.actPlain61_119w (name : String) (x : Value) (w : World) : (FmtCalls.act name true 119 false (.iface 61 x)).run Ybaf.prog w = .ok (.closed true) w := by kernel_rfl
@[go_sem] theorem Ybaf.ptr74 (w : World) : (FmtStop.ptrTo "fmt.wrapError").run Ybaf.prog w = .ok 74 w := by kernel_rfl
@[go_sem] theorem Ybaf.elem74 (w : World) : (elemOf 74).run Ybaf.prog w = .ok 144 w := by kernel_rfl
@[go_sem] theorem Ybaf.isError74 (w : World) : (FmtDoors.textMethod 74 "Error").run Ybaf.prog w = .ok true w := by kernel_rfl
theorem Ybaf.name74 : Ybaf.prog.typeName? 3 74 = some "*fmt.wrapError" := by kernel_rfl

set_option maxHeartbeats 800000 in
/-- fmt.Errorf("%w at byte %d: %s", ErrBadStamp, off, text). -/
theorem errorf_e (F : Interp) (s t : ByteArray) (n : Int) (a : Addr) (blk : Nat) (w : World) (hF : F.answers w.tape)
    (hc0 : w.cell? ⟨blk, 0, none⟩ = some (.iface 61 (.pointer (some a)))) (hc1 : w.cell? ⟨blk, 1, none⟩ = some (.iface 3 (.int .i64 n))) (hc2 : w.cell? ⟨blk, 2, none⟩ = some (.iface 9 (.string s))) (hs : w.cell? a = some (.string t)) :
    Calls Ybaf.prog 18 #[.string txtFE, .slice (some ⟨blk, 0, none⟩) 3 3] w fun e w' =>
      e = .returned (.iface 74 (.pointer (some ⟨w.heap.size, 0, none⟩))) ∧ ∃ u, w' = (w.alloc (.cells #[.string u, .iface 61 (.pointer (some a))] 144)).drew := by
  have hF' := answers_open hF
  have hop := Ybaf.opPlain61_119w "fmt.errorf" a t w hs
  go_enter Ybaf.func18, Ybaf.ntmps18
  go_wp2
  apply rows_value Ybaf.nextTurns
  case hr =>
    go_simp
    exact ⟨rfl, rfl⟩
  case h =>
    go_wp2
    go_ret
    exact ⟨rfl, _, rfl⟩
end Go.Proofs.YbulkbzsuFmt

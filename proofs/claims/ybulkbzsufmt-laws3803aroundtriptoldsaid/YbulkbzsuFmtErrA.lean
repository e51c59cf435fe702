import Derived.Test.YbulkbzsuFmtStop
import Derived.Deep.RegionWith
import Derived.Below
namespace Go.Proofs.YbulkbzsuFmt
open Go.RowKit Go.Extern.Stop Go.Stop Go.Extern
set_option linter.unusedVariables false

abbrev txtG0 : ByteArray := ⟨#[101, 118, 101, 110, 116, 32, 37, 113, 32, 105, 115, 32, 110, 111, 116, 32, 119, 114, 105, 116, 116, 101, 110, 32, 72, 79, 83, 84, 58, 78]⟩
@[go_sem] theorem Ybaf.fmtG0 : FmtStop.printed? ⟨#[101, 118, 101, 110, 116, 32, 37, 113, 32, 105, 115, 32, 110, 111, 116, 32, 119, 114, 105, 116, 116, 101, 110, 32, 72, 79, 83, 84, 58, 78]⟩ 1 = some [(0, 113, false)] := by kernel_rfl
@[go_sem] theorem Ybaf.fmtG0r (w : World) : (FmtDoors.printed ⟨#[101, 118, 101, 110, 116, 32, 37, 113, 32, 105, 115, 32, 110, 111, 116, 32, 119, 114, 105, 116, 116, 101, 110, 32, 72, 79, 83, 84, 58, 78]⟩ 1).run Ybaf.prog w = .ok [(0, 113, false)] w := by kernel_rfl
abbrev txtG1 : ByteArray := ⟨#[101, 118, 101, 110, 116, 32, 37, 113, 32, 105, 115, 32, 110, 111, 116, 32, 119, 114, 105, 116, 116, 101, 110, 32, 72, 79, 83, 84, 58, 78, 58, 32, 37, 113, 32, 105, 115, 32, 110, 111, 116, 32, 97, 32, 99, 111, 117, 110, 116]⟩
@[go_sem] theorem Ybaf.fmtG1 : FmtStop.printed? ⟨#[101, 118, 101, 110, 116, 32, 37, 113, 32, 105, 115, 32, 110, 111, 116, 32, 119, 114, 105, 116, 116, 101, 110, 32, 72, 79, 83, 84, 58, 78, 58, 32, 37, 113, 32, 105, 115, 32, 110, 111, 116, 32, 97, 32, 99, 111, 117, 110, 116]⟩ 2 = some [(0, 113, false), (1, 113, false)] := by kernel_rfl
@[go_sem] theorem Ybaf.fmtG1r (w : World) : (FmtDoors.printed ⟨#[101, 118, 101, 110, 116, 32, 37, 113, 32, 105, 115, 32, 110, 111, 116, 32, 119, 114, 105, 116, 116, 101, 110, 32, 72, 79, 83, 84, 58, 78, 58, 32, 37, 113, 32, 105, 115, 32, 110, 111, 116, 32, 97, 32, 99, 111, 117, 110, 116]⟩ 2).run Ybaf.prog w = .ok [(0, 113, false), (1, 113, false)] w := by kernel_rfl
@[go_sem] theorem Ybaf.act9_113w (name : String) (x : Value) (w : World) : (FmtCalls.act name true 113 false (.iface 9 x)).run Ybaf.prog w = .ok (.closed true) w := by kernel_rfl
@[go_sem] theorem Ybaf.op9_113w (name : String) (x : ByteArray) (w : World) : (FmtStop.operand name true 113 false (.iface 9 (.string x))).run Ybaf.prog w = .ok (Ybaf.shape9, FmtStop.pack x.data.toList) w := by kernel_rfl

set_option maxHeartbeats 800000 in
theorem errorf_G0 (F : Interp) (x0 : ByteArray) (blk : Nat) (w : World) (hF : F.answers w.tape) (hc0 : w.cell? ⟨blk, 0, none⟩ = some (.iface 9 (.string x0))) :
    Calls Ybaf.prog 18 #[.string txtG0, .slice (some ⟨blk, 0, none⟩) 1 1] w fun e w' =>
      e = .returned (.iface 61 (.pointer (some ⟨w.heap.size, 0, none⟩))) ∧ ∃ u, w' = (w.alloc (.cells #[.string u] 63)).drew := by
  have hF' := answers_open hF
  go_enter Ybaf.func18, Ybaf.ntmps18
  go_wp2
  apply rows_value Ybaf.nextTurns
  case hr =>
    go_simp
    exact ⟨rfl, rfl⟩
  case h =>
    go_wp2
    go_ret
    exact ⟨rfl, _, rfl⟩

set_option maxHeartbeats 800000 in
theorem errorf_G1 (F : Interp) (x0 x1 : ByteArray) (blk : Nat) (w : World) (hF : F.answers w.tape) (hc0 : w.cell? ⟨blk, 0, none⟩ = some (.iface 9 (.string x0))) (hc1 : w.cell? ⟨blk, 1, none⟩ = some (.iface 9 (.string x1))) :
    Calls Ybaf.prog 18 #[.string txtG1, .slice (some ⟨blk, 0, none⟩) 2 2] w fun e w' =>
      e = .returned (.iface 61 (.pointer (some ⟨w.heap.size, 0, none⟩))) ∧ ∃ u, w' = (w.alloc (.cells #[.string u] 63)).drew := by
  have hF' := answers_open hF
  go_enter Ybaf.func18, Ybaf.ntmps18
  go_wp2
  apply rows_value Ybaf.nextTurns
  case hr =>
    go_simp
    exact ⟨rfl, rfl⟩
  case h =>
    go_wp2
    go_ret
    exact ⟨rfl, _, rfl⟩

end Go.Proofs.YbulkbzsuFmt
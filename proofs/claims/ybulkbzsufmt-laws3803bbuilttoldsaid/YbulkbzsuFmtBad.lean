import Derived.Test.YbulkbzsuFmtStop
import Derived.Deep.RegionWith
import Derived.Below
namespace Go.Proofs.YbulkbzsuFmt
open Go.RowKit Go.Extern.Stop Go.Stop Go.Extern
set_option linter.unusedVariables false

theorem hid_mk {p : Prop} (h : p) : Hid p := h

/-- How badStamp comes back: a new *fmt.wrapError that wraps the sentinel at a. -/
def Bad (w : World) (a : Addr) (v : Value) (w' : World) : Prop :=
  ∃ pb, v = .iface 74 (.pointer (some ⟨pb, 0, none⟩)) ∧ w.heap.size ≤ pb ∧ pb < w'.heap.size ∧ w'.cell? ⟨pb, 1, none⟩ = some (.iface 61 (.pointer (some a))) ∧ Below w.heap.size w w'

theorem bad_end (w : World) (a : Addr) (o : Obj) (u : ByteArray) : Bad w a (.iface 74 (.pointer (some ⟨w.heap.size + 1, 0, none⟩))) ((w.alloc o).alloc (.cells #[.string u, .iface 61 (.pointer (some a))] 144)).drew.drew.drew := by
  refine ⟨_, rfl, by omega, by simp, ?_, (((Below.refl _ w).alloc (Nat.le_refl _) _).alloc (by simp) _).drew.drew.drew⟩
  simp

theorem errorf_at (F : Interp) (s t : ByteArray) (n : Int) (a : Addr) (w : World) (hF : F.answers w.tape) (hs : w.cell? a = some (.string t)) :
    Calls Ybaf.prog 18 #[.string txtFE, .slice (some ⟨w.heap.size, 0, none⟩) 3 3] (w.alloc (.cells #[.iface 61 (.pointer (some a)), .iface 3 (.int .i64 n), .iface 9 (.string s)] 20)).drew.drew fun e w' =>
      e = .returned (.iface 74 (.pointer (some ⟨w.heap.size + 1, 0, none⟩))) ∧ ∃ u, w' = ((w.alloc (.cells #[.iface 61 (.pointer (some a)), .iface 3 (.int .i64 n), .iface 9 (.string s)] 20)).drew.drew.alloc (.cells #[.string u, .iface 61 (.pointer (some a))] 144)).drew := by
  have hal : a.block < w.heap.size := World.block_lt_of_cell? w _ hs
  have h := errorf_e F s t n a w.heap.size (w.alloc (.cells #[.iface 61 (.pointer (some a)), .iface 3 (.int .i64 n), .iface 9 (.string s)] 20)).drew.drew hF (by go_simp) (by go_simp) (by go_simp) ((((Below.refl _ w).alloc (Nat.le_refl _) _).cell (p := a) hal).trans hs)
  refine h.mono ?_
  rintro e w' ⟨rfl, u, rfl⟩
  exact ⟨by simp, u, rfl⟩


theorem rows_F0 (F : Interp)  (w : World) {R : Value → World → Prop} (hF : F.answers w.tape)  (h : ∀ s, R (.string s) w.drew) : Rows Ybaf.prog FmtCalls.turnsRow (FmtCalls.save 0 0 (.slice none 0 0) txtF0 [] []) w R := by
  have hF' := answers_open hF
  apply rows_value Ybaf.nextTurns
  case hr =>
    go_simp
    exact ⟨rfl, rfl⟩
  case h => exact h _

set_option maxHeartbeats 400000 in
theorem bad_F0 (F : Interp) (t : ByteArray) (n : Int) (a : Addr)  (w : World) (hF : F.answers w.tape) (hg : w.cell? ⟨0, 0, none⟩ = some (.iface 61 (.pointer (some a)))) (hs : w.cell? a = some (.string t))  :
    Calls Ybaf.prog 27 #[.int .i64 n, .string txtF0, .slice none 0 0] w fun e w' => ∃ v, e = .returned v ∧ Bad w a v w' := by
  have hal : a.block < w.heap.size := World.block_lt_of_cell? w _ hs
  go_enter Ybaf.func27, Ybaf.ntmps27
  go_wp2
  go_region_with (first | (refine rows_F0 F  _ (by exact hF)  ?_; intro s) | (go_at_call 18; refine (errorf_at F s t n a w hF hs).mono ?_; rintro e w2 ⟨rfl, u, rfl⟩))
  all_goals go_wp2
  all_goals go_ret
  all_goals exact ⟨_, rfl, bad_end _ _ _ _⟩


theorem rows_F1 (F : Interp) (x0 : Int) (blk : Nat) (w : World) {R : Value → World → Prop} (hF : F.answers w.tape) (hc0 : w.cell? ⟨blk, 0, none⟩ = some (.iface 5 (.int .u8 x0))) (h : ∀ s, R (.string s) w.drew) : Rows Ybaf.prog FmtCalls.turnsRow (FmtCalls.save 0 0 (.slice (some ⟨blk, 0, none⟩) 1 1) txtF1 [] [(0, 100, false)]) w R := by
  have hF' := answers_open hF
  apply rows_value Ybaf.nextTurns
  case hr =>
    go_simp
    exact ⟨rfl, rfl⟩
  case h => exact h _

set_option maxHeartbeats 400000 in
theorem bad_F1 (F : Interp) (t : ByteArray) (n : Int) (a : Addr) (x0 : Int) (blk : Nat) (w : World) (hF : F.answers w.tape) (hg : w.cell? ⟨0, 0, none⟩ = some (.iface 61 (.pointer (some a)))) (hs : w.cell? a = some (.string t)) (hc0 : w.cell? ⟨blk, 0, none⟩ = some (.iface 5 (.int .u8 x0))) :
    Calls Ybaf.prog 27 #[.int .i64 n, .string txtF1, .slice (some ⟨blk, 0, none⟩) 1 1] w fun e w' => ∃ v, e = .returned v ∧ Bad w a v w' := by
  have hal : a.block < w.heap.size := World.block_lt_of_cell? w _ hs
  go_enter Ybaf.func27, Ybaf.ntmps27
  go_wp2
  go_region_with (first | (refine rows_F1 F x0 blk _ (by exact hF) (by exact hc0) ?_; intro s) | (go_at_call 18; refine (errorf_at F s t n a w hF hs).mono ?_; rintro e w2 ⟨rfl, u, rfl⟩))
  all_goals go_wp2
  all_goals go_ret
  all_goals exact ⟨_, rfl, bad_end _ _ _ _⟩


theorem rows_F2 (F : Interp) (x0 : Int) (blk : Nat) (w : World) {R : Value → World → Prop} (hF : F.answers w.tape) (hc0 : w.cell? ⟨blk, 0, none⟩ = some (.iface 5 (.int .u8 x0))) (h : ∀ s, R (.string s) w.drew) : Rows Ybaf.prog FmtCalls.turnsRow (FmtCalls.save 0 0 (.slice (some ⟨blk, 0, none⟩) 1 1) txtF2 [] [(0, 100, false)]) w R := by
  have hF' := answers_open hF
  apply rows_value Ybaf.nextTurns
  case hr =>
    go_simp
    exact ⟨rfl, rfl⟩
  case h => exact h _

set_option maxHeartbeats 400000 in
theorem bad_F2 (F : Interp) (t : ByteArray) (n : Int) (a : Addr) (x0 : Int) (blk : Nat) (w : World) (hF : F.answers w.tape) (hg : w.cell? ⟨0, 0, none⟩ = some (.iface 61 (.pointer (some a)))) (hs : w.cell? a = some (.string t)) (hc0 : w.cell? ⟨blk, 0, none⟩ = some (.iface 5 (.int .u8 x0))) :
    Calls Ybaf.prog 27 #[.int .i64 n, .string txtF2, .slice (some ⟨blk, 0, none⟩) 1 1] w fun e w' => ∃ v, e = .returned v ∧ Bad w a v w' := by
  have hal : a.block < w.heap.size := World.block_lt_of_cell? w _ hs
  go_enter Ybaf.func27, Ybaf.ntmps27
  go_wp2
  go_region_with (first | (refine rows_F2 F x0 blk _ (by exact hF) (by exact hc0) ?_; intro s) | (go_at_call 18; refine (errorf_at F s t n a w hF hs).mono ?_; rintro e w2 ⟨rfl, u, rfl⟩))
  all_goals go_wp2
  all_goals go_ret
  all_goals exact ⟨_, rfl, bad_end _ _ _ _⟩


theorem rows_F3 (F : Interp) (x0 : Int) (blk : Nat) (w : World) {R : Value → World → Prop} (hF : F.answers w.tape) (hc0 : w.cell? ⟨blk, 0, none⟩ = some (.iface 5 (.int .u8 x0))) (h : ∀ s, R (.string s) w.drew) : Rows Ybaf.prog FmtCalls.turnsRow (FmtCalls.save 0 0 (.slice (some ⟨blk, 0, none⟩) 1 1) txtF3 [] [(0, 100, false)]) w R := by
  have hF' := answers_open hF
  apply rows_value Ybaf.nextTurns
  case hr =>
    go_simp
    exact ⟨rfl, rfl⟩
  case h => exact h _

set_option maxHeartbeats 400000 in
theorem bad_F3 (F : Interp) (t : ByteArray) (n : Int) (a : Addr) (x0 : Int) (blk : Nat) (w : World) (hF : F.answers w.tape) (hg : w.cell? ⟨0, 0, none⟩ = some (.iface 61 (.pointer (some a)))) (hs : w.cell? a = some (.string t)) (hc0 : w.cell? ⟨blk, 0, none⟩ = some (.iface 5 (.int .u8 x0))) :
    Calls Ybaf.prog 27 #[.int .i64 n, .string txtF3, .slice (some ⟨blk, 0, none⟩) 1 1] w fun e w' => ∃ v, e = .returned v ∧ Bad w a v w' := by
  have hal : a.block < w.heap.size := World.block_lt_of_cell? w _ hs
  go_enter Ybaf.func27, Ybaf.ntmps27
  go_wp2
  go_region_with (first | (refine rows_F3 F x0 blk _ (by exact hF) (by exact hc0) ?_; intro s) | (go_at_call 18; refine (errorf_at F s t n a w hF hs).mono ?_; rintro e w2 ⟨rfl, u, rfl⟩))
  all_goals go_wp2
  all_goals go_ret
  all_goals exact ⟨_, rfl, bad_end _ _ _ _⟩


theorem rows_F4 (F : Interp) (x0 : Int) (x1 : Int) (x2 : Int) (blk : Nat) (w : World) {R : Value → World → Prop} (hF : F.answers w.tape) (hc0 : w.cell? ⟨blk, 0, none⟩ = some (.iface 5 (.int .u8 x0))) (hc1 : w.cell? ⟨blk, 1, none⟩ = some (.iface 3 (.int .i64 x1))) (hc2 : w.cell? ⟨blk, 2, none⟩ = some (.iface 3 (.int .i64 x2))) (h : ∀ s, R (.string s) w.drew) : Rows Ybaf.prog FmtCalls.turnsRow (FmtCalls.save 0 0 (.slice (some ⟨blk, 0, none⟩) 3 3) txtF4 [] [(0, 100, false), (1, 100, false), (2, 100, false)]) w R := by
  have hF' := answers_open hF
  apply rows_value Ybaf.nextTurns
  case hr =>
    go_simp
    exact ⟨rfl, rfl⟩
  case h => exact h _

set_option maxHeartbeats 400000 in
theorem bad_F4 (F : Interp) (t : ByteArray) (n : Int) (a : Addr) (x0 : Int) (x1 : Int) (x2 : Int) (blk : Nat) (w : World) (hF : F.answers w.tape) (hg : w.cell? ⟨0, 0, none⟩ = some (.iface 61 (.pointer (some a)))) (hs : w.cell? a = some (.string t)) (hc0 : w.cell? ⟨blk, 0, none⟩ = some (.iface 5 (.int .u8 x0))) (hc1 : w.cell? ⟨blk, 1, none⟩ = some (.iface 3 (.int .i64 x1))) (hc2 : w.cell? ⟨blk, 2, none⟩ = some (.iface 3 (.int .i64 x2))) :
    Calls Ybaf.prog 27 #[.int .i64 n, .string txtF4, .slice (some ⟨blk, 0, none⟩) 3 3] w fun e w' => ∃ v, e = .returned v ∧ Bad w a v w' := by
  have hal : a.block < w.heap.size := World.block_lt_of_cell? w _ hs
  go_enter Ybaf.func27, Ybaf.ntmps27
  go_wp2
  go_region_with (first | (refine rows_F4 F x0 x1 x2 blk _ (by exact hF) (by exact hc0) (by exact hc1) (by exact hc2) ?_; intro s) | (go_at_call 18; refine (errorf_at F s t n a w hF hs).mono ?_; rintro e w2 ⟨rfl, u, rfl⟩))
  all_goals go_wp2
  all_goals go_ret
  all_goals exact ⟨_, rfl, bad_end _ _ _ _⟩


theorem rows_F5 (F : Interp) (x0 : ByteArray) (x1 : Addr) (y1 : ByteArray) (blk : Nat) (w : World) {R : Value → World → Prop} (hF : F.answers w.tape) (hc0 : w.cell? ⟨blk, 0, none⟩ = some (.iface 9 (.string x0))) (hc1 : w.cell? ⟨blk, 1, none⟩ = some (.iface 61 (.pointer (some x1)))) (hd1 : w.cell? x1 = some (.string y1)) (h : ∀ s, R (.string s) w.drew) : Rows Ybaf.prog FmtCalls.turnsRow (FmtCalls.save 0 0 (.slice (some ⟨blk, 0, none⟩) 2 2) txtF5 [] [(0, 115, false), (1, 118, false)]) w R := by
  have hF' := answers_open hF
  have hop := Ybaf.opPlain61_118 "fmt.Sprintf" x1 y1 w hd1
  apply rows_value Ybaf.nextTurns
  case hr =>
    go_simp
    exact ⟨rfl, rfl⟩
  case h => exact h _

set_option maxHeartbeats 400000 in
theorem bad_F5 (F : Interp) (t : ByteArray) (n : Int) (a : Addr) (x0 : ByteArray) (x1 : Addr) (y1 : ByteArray) (blk : Nat) (w : World) (hF : F.answers w.tape) (hg : w.cell? ⟨0, 0, none⟩ = some (.iface 61 (.pointer (some a)))) (hs : w.cell? a = some (.string t)) (hc0 : w.cell? ⟨blk, 0, none⟩ = some (.iface 9 (.string x0))) (hc1 : w.cell? ⟨blk, 1, none⟩ = some (.iface 61 (.pointer (some x1)))) (hd1 : w.cell? x1 = some (.string y1)) :
    Calls Ybaf.prog 27 #[.int .i64 n, .string txtF5, .slice (some ⟨blk, 0, none⟩) 2 2] w fun e w' => ∃ v, e = .returned v ∧ Bad w a v w' := by
  have hal : a.block < w.heap.size := World.block_lt_of_cell? w _ hs
  go_enter Ybaf.func27, Ybaf.ntmps27
  go_wp2
  go_region_with (first | (refine rows_F5 F x0 x1 y1 blk _ (by exact hF) (by exact hc0) (by exact hc1) (by exact hd1) ?_; intro s) | (go_at_call 18; refine (errorf_at F s t n a w hF hs).mono ?_; rintro e w2 ⟨rfl, u, rfl⟩))
  all_goals go_wp2
  all_goals go_ret
  all_goals exact ⟨_, rfl, bad_end _ _ _ _⟩


theorem rows_F6 (F : Interp) (x0 : Int) (x1 : Int) (blk : Nat) (w : World) {R : Value → World → Prop} (hF : F.answers w.tape) (hc0 : w.cell? ⟨blk, 0, none⟩ = some (.iface 22 (.int .u64 x0))) (hc1 : w.cell? ⟨blk, 1, none⟩ = some (.iface 3 (.int .i64 x1))) (h : ∀ s, R (.string s) w.drew) : Rows Ybaf.prog FmtCalls.turnsRow (FmtCalls.save 0 0 (.slice (some ⟨blk, 0, none⟩) 2 2) txtF6 [] [(0, 100, false), (1, 100, false)]) w R := by
  have hF' := answers_open hF
  apply rows_value Ybaf.nextTurns
  case hr =>
    go_simp
    exact ⟨rfl, rfl⟩
  case h => exact h _

set_option maxHeartbeats 400000 in
theorem bad_F6 (F : Interp) (t : ByteArray) (n : Int) (a : Addr) (x0 : Int) (x1 : Int) (blk : Nat) (w : World) (hF : F.answers w.tape) (hg : w.cell? ⟨0, 0, none⟩ = some (.iface 61 (.pointer (some a)))) (hs : w.cell? a = some (.string t)) (hc0 : w.cell? ⟨blk, 0, none⟩ = some (.iface 22 (.int .u64 x0))) (hc1 : w.cell? ⟨blk, 1, none⟩ = some (.iface 3 (.int .i64 x1))) :
    Calls Ybaf.prog 27 #[.int .i64 n, .string txtF6, .slice (some ⟨blk, 0, none⟩) 2 2] w fun e w' => ∃ v, e = .returned v ∧ Bad w a v w' := by
  have hal : a.block < w.heap.size := World.block_lt_of_cell? w _ hs
  go_enter Ybaf.func27, Ybaf.ntmps27
  go_wp2
  go_region_with (first | (refine rows_F6 F x0 x1 blk _ (by exact hF) (by exact hc0) (by exact hc1) ?_; intro s) | (go_at_call 18; refine (errorf_at F s t n a w hF hs).mono ?_; rintro e w2 ⟨rfl, u, rfl⟩))
  all_goals go_wp2
  all_goals go_ret
  all_goals exact ⟨_, rfl, bad_end _ _ _ _⟩


theorem rows_F7 (F : Interp) (x0 : ByteArray) (x1 : Int) (x2 : Int) (blk : Nat) (w : World) {R : Value → World → Prop} (hF : F.answers w.tape) (hc0 : w.cell? ⟨blk, 0, none⟩ = some (.iface 9 (.string x0))) (hc1 : w.cell? ⟨blk, 1, none⟩ = some (.iface 22 (.int .u64 x1))) (hc2 : w.cell? ⟨blk, 2, none⟩ = some (.iface 22 (.int .u64 x2))) (h : ∀ s, R (.string s) w.drew) : Rows Ybaf.prog FmtCalls.turnsRow (FmtCalls.save 0 0 (.slice (some ⟨blk, 0, none⟩) 3 3) txtF7 [] [(0, 115, false), (1, 100, false), (2, 100, false)]) w R := by
  have hF' := answers_open hF
  apply rows_value Ybaf.nextTurns
  case hr =>
    go_simp
    exact ⟨rfl, rfl⟩
  case h => exact h _

set_option maxHeartbeats 400000 in
theorem bad_F7 (F : Interp) (t : ByteArray) (n : Int) (a : Addr) (x0 : ByteArray) (x1 : Int) (x2 : Int) (blk : Nat) (w : World) (hF : F.answers w.tape) (hg : w.cell? ⟨0, 0, none⟩ = some (.iface 61 (.pointer (some a)))) (hs : w.cell? a = some (.string t)) (hc0 : w.cell? ⟨blk, 0, none⟩ = some (.iface 9 (.string x0))) (hc1 : w.cell? ⟨blk, 1, none⟩ = some (.iface 22 (.int .u64 x1))) (hc2 : w.cell? ⟨blk, 2, none⟩ = some (.iface 22 (.int .u64 x2))) :
    Calls Ybaf.prog 27 #[.int .i64 n, .string txtF7, .slice (some ⟨blk, 0, none⟩) 3 3] w fun e w' => ∃ v, e = .returned v ∧ Bad w a v w' := by
  have hal : a.block < w.heap.size := World.block_lt_of_cell? w _ hs
  go_enter Ybaf.func27, Ybaf.ntmps27
  go_wp2
  go_region_with (first | (refine rows_F7 F x0 x1 x2 blk _ (by exact hF) (by exact hc0) (by exact hc1) (by exact hc2) ?_; intro s) | (go_at_call 18; refine (errorf_at F s t n a w hF hs).mono ?_; rintro e w2 ⟨rfl, u, rfl⟩))
  all_goals go_wp2
  all_goals go_ret
  all_goals exact ⟨_, rfl, bad_end _ _ _ _⟩

end Go.Proofs.YbulkbzsuFmt

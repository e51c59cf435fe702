import Derived.Test.YbulkbzsuFmtStamp
namespace Go.Proofs.YbulkbzsuFmt
open Go.RowKit Go.Extern.Stop Go.Stop Go.Extern
set_option linter.unusedVariables false
set_option linter.unusedSimpArgs false

section
variable (F : Interp) (a0 a3 a4 a5 : Addr) (t0 t3 t4 t5 : ByteArray) (n x : Int) (w : World) (hF : F.answers w.tape) (hS : Sent a0 a3 a4 a5 t0 t3 t4 t5 w)
include hF hS
theorem fm_bad1 : Calls Ybaf.prog 27 #[.int .i64 n, .string txtF1, .slice (some ⟨w.heap.size, 0, none⟩) 1 1] (w.alloc (.cells #[.iface 5 (.int .u8 x)] 20)) fun e w' => ∃ v, e = .returned v ∧ Bad w a0 v w' := by
  have hB : Below w.heap.size w (w.alloc (.cells #[.iface 5 (.int .u8 x)] 20)) := (Below.refl _ w).alloc (Nat.le_refl _) _
  have hS' := hS.mono hB.block
  refine (bad_F1 F t0 n a0 x w.heap.size _ (by exact hF) hS'.g0 hS'.s0 (by go_simp)).mono ?_
  rintro e w' ⟨v, rfl, hv⟩
  exact ⟨v, rfl, hv.from hB⟩
theorem fm_bad2 : Calls Ybaf.prog 27 #[.int .i64 n, .string txtF2, .slice (some ⟨w.heap.size, 0, none⟩) 1 1] (w.alloc (.cells #[.iface 5 (.int .u8 x)] 20)) fun e w' => ∃ v, e = .returned v ∧ Bad w a0 v w' := by
  have hB : Below w.heap.size w (w.alloc (.cells #[.iface 5 (.int .u8 x)] 20)) := (Below.refl _ w).alloc (Nat.le_refl _) _
  have hS' := hS.mono hB.block
  refine (bad_F2 F t0 n a0 x w.heap.size _ (by exact hF) hS'.g0 hS'.s0 (by go_simp)).mono ?_
  rintro e w' ⟨v, rfl, hv⟩
  exact ⟨v, rfl, hv.from hB⟩
theorem fm_bad3 : Calls Ybaf.prog 27 #[.int .i64 n, .string txtF3, .slice (some ⟨w.heap.size, 0, none⟩) 1 1] (w.alloc (.cells #[.iface 5 (.int .u8 x)] 20)) fun e w' => ∃ v, e = .returned v ∧ Bad w a0 v w' := by
  have hB : Below w.heap.size w (w.alloc (.cells #[.iface 5 (.int .u8 x)] 20)) := (Below.refl _ w).alloc (Nat.le_refl _) _
  have hS' := hS.mono hB.block
  refine (bad_F3 F t0 n a0 x w.heap.size _ (by exact hF) hS'.g0 hS'.s0 (by go_simp)).mono ?_
  rintro e w' ⟨v, rfl, hv⟩
  exact ⟨v, rfl, hv.from hB⟩
theorem fm_bad4 (y z : Int) : Calls Ybaf.prog 27 #[.int .i64 n, .string txtF4, .slice (some ⟨w.heap.size, 0, none⟩) 3 3] (w.alloc (.cells #[.iface 5 (.int .u8 x), .iface 3 (.int .i64 y), .iface 3 (.int .i64 z)] 20)) fun e w' => ∃ v, e = .returned v ∧ Bad w a0 v w' := by
  have hB : Below w.heap.size w (w.alloc (.cells #[.iface 5 (.int .u8 x), .iface 3 (.int .i64 y), .iface 3 (.int .i64 z)] 20)) := (Below.refl _ w).alloc (Nat.le_refl _) _
  have hS' := hS.mono hB.block
  refine (bad_F4 F t0 n a0 x y z w.heap.size _ (by exact hF) hS'.g0 hS'.s0 (by go_simp) (by go_simp) (by go_simp)).mono ?_
  rintro e w' ⟨v, rfl, hv⟩
  exact ⟨v, rfl, hv.from hB⟩
theorem fm_bad6 (y : Int) : Calls Ybaf.prog 27 #[.int .i64 n, .string txtF6, .slice (some ⟨w.heap.size, 0, none⟩) 2 2] (w.alloc (.cells #[.iface 22 (.int .u64 x), .iface 3 (.int .i64 y)] 20)) fun e w' => ∃ v, e = .returned v ∧ Bad w a0 v w' := by
  have hB : Below w.heap.size w (w.alloc (.cells #[.iface 22 (.int .u64 x), .iface 3 (.int .i64 y)] 20)) := (Below.refl _ w).alloc (Nat.le_refl _) _
  have hS' := hS.mono hB.block
  refine (bad_F6 F t0 n a0 x y w.heap.size _ (by exact hF) hS'.g0 hS'.s0 (by go_simp) (by go_simp)).mono ?_
  rintro e w' ⟨v, rfl, hv⟩
  exact ⟨v, rfl, hv.from hB⟩
theorem fm_bad7 (s : ByteArray) (y : Int) : Calls Ybaf.prog 27 #[.int .i64 n, .string txtF7, .slice (some ⟨w.heap.size, 0, none⟩) 3 3] (w.alloc (.cells #[.iface 9 (.string s), .iface 22 (.int .u64 x), .iface 22 (.int .u64 y)] 20)) fun e w' => ∃ v, e = .returned v ∧ Bad w a0 v w' := by
  have hB : Below w.heap.size w (w.alloc (.cells #[.iface 9 (.string s), .iface 22 (.int .u64 x), .iface 22 (.int .u64 y)] 20)) := (Below.refl _ w).alloc (Nat.le_refl _) _
  have hS' := hS.mono hB.block
  refine (bad_F7 F t0 n a0 s x y w.heap.size _ (by exact hF) hS'.g0 hS'.s0 (by go_simp) (by go_simp) (by go_simp)).mono ?_
  rintro e w' ⟨v, rfl, hv⟩
  exact ⟨v, rfl, hv.from hB⟩

set_option maxRecDepth 100000 in
set_option maxHeartbeats 800000 in
theorem form_walk (h0 : 0 ≤ x) (h1 : x ≤ 255) : Calls Ybaf.prog 28 #[.int .u8 x] w fun e w' => ∃ v, e = .returned v ∧ Bad w a0 v w' := by
  have H1 := hid_mk (fun x => fm_bad1 F a0 a3 a4 a5 t0 t3 t4 t5 0 x w hF hS)
  have H2 := hid_mk (fun x => fm_bad2 F a0 a3 a4 a5 t0 t3 t4 t5 0 x w hF hS)
  have H3 := hid_mk (fun x => fm_bad3 F a0 a3 a4 a5 t0 t3 t4 t5 0 x w hF hS)
  have H4 := hid_mk (fm_bad4 F a0 a3 a4 a5 t0 t3 t4 t5 0 x w hF hS 1 3)
  by_cases e1 : x = 1
  · subst e1
    go_enter Ybaf.func28, Ybaf.ntmps28
    go_wp2_with (go_at_call 27; refine (H1.out 1).mono ?_; rintro e w2 ⟨v, rfl, hv⟩)
    go_ret
    exact ⟨_, rfl, hv⟩
  · by_cases e2 : x = 2
    · subst e2
      go_enter Ybaf.func28, Ybaf.ntmps28
      go_wp2_with (go_at_call 27; refine (H2.out 2).mono ?_; rintro e w2 ⟨v, rfl, hv⟩)
      go_ret
      exact ⟨_, rfl, hv⟩
    · by_cases e3 : x = 3
      · subst e3
        go_enter Ybaf.func28, Ybaf.ntmps28
        go_wp2_with (go_at_call 27; refine (H3.out 3).mono ?_; rintro e w2 ⟨v, rfl, hv⟩)
        go_ret
        exact ⟨_, rfl, hv⟩
      · go_enter Ybaf.func28, Ybaf.ntmps28
        go_wp2_with (go_at_call 27; refine H4.out.mono ?_; rintro e w2 ⟨v, rfl, hv⟩)
        go_ret
        exact ⟨_, rfl, hv⟩
end
end Go.Proofs.YbulkbzsuFmt

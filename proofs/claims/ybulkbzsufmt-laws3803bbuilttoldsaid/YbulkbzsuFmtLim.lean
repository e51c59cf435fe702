import Derived.Test.YbulkbzsuFmtRaw
namespace Go.Proofs.YbulkbzsuFmt
open Go.RowKit Go.Extern.Stop Go.Stop Go.Extern
set_option linter.unusedVariables false
set_option linter.unusedSimpArgs false

theorem Ybaf.info22 : (Ybaf.prog.info? 22).map (fun i => (i.zero, i.size, i.bytes)) = some (some (.int .u64 0), 1, 8) := by kernel_rfl

/-- What the limit's call leaves: one number noted; the rest as it was. -/
structure Noted (w w' : World) (cb n : Nat) : Prop where
  grown : w.grownBy w' (some cb)
  note : ∃ g c, w'.cell? ⟨cb, 0, none⟩ = some (.slice (some ⟨g, 0, none⟩) 1 c) ∧ w'.cell? ⟨g, 0, none⟩ = some (.int .u64 n) ∧ w.heap.size ≤ g

set_option maxHeartbeats 800000 in
theorem lim_walk (n lim cb lb rb : Nat) (r : Addr) (w : World) (hcb : w.heap[cb]? = some (.cells #[.slice none 0 0] 37 (0, 0))) (hl : w.cell? ⟨lb, 0, none⟩ = some (.int .u64 lim)) (hr : w.cell? ⟨rb, 0, none⟩ = some (.iface 61 (.pointer (some r)))) (hlc : lb ≠ cb) (hrc : rb ≠ cb) :
    Calls Ybaf.prog 13 #[.int .u64 n, .pointer (some ⟨cb, 0, none⟩), .pointer (some ⟨lb, 0, none⟩), .pointer (some ⟨rb, 0, none⟩)] w fun e w' => e = .returned (if lim < n then .iface 61 (.pointer (some r)) else .nilIface) ∧ Noted w w' cb n := by
  obtain ⟨i0, hi, hz0, hz1, hz2⟩ := info_parts Ybaf.info22
  have c0 : w.cell? ⟨cb, 0, none⟩ = some (.slice none 0 0) := by rw [cell_of_row w _ _ _ _ _ hcb]; rfl
  have hcl : cb < w.heap.size := World.block_lt_of_cell? w _ c0
  have hll : lb < w.heap.size := World.block_lt_of_cell? w _ hl
  have hrl : rb < w.heap.size := World.block_lt_of_cell? w _ hr
  obtain ⟨e, he⟩ : ∃ e, Hid (e = if lim < n then Value.iface 61 (.pointer (some r)) else .nilIface) := ⟨_, hid_mk rfl⟩
  rw [← he.out]
  go_enter Ybaf.func13, Ybaf.ntmps13
  go_wp2_with (at_builtin; refine wpList_append_src _ rfl _ _ 37 37 rfl w.heap.size 22 i0 (.int .u64 0) 1 8 Ybaf.underlying37 hi hz0 hz1 hz2 rfl _ 0 [] rfl _ 1 [.int .u64 (n : Int)] rfl ?a1 ?a2 ?a3 ?a4 ?a5 ?a6)
  case a1 => exact World.ownsRow_nil _ _ _ _
  case a2 => exact Src.ofSlice _ Ybaf.underlying37 _ _ _ _ rfl (World.news_of_block (heap_new _ _ _ (by simp))) (ints_one .u64 [_])
  case a3 => unfold maxLen; omega
  case a4 => omega
  case a5 => first | omega | simp
  case a6 =>
    intro v1 w1 ho1 hg1 _ hat1 hfull1
    have hs1 := hg1.size
    simp at hs1
    have h1 : ∀ b, b < w.heap.size → w1.heap[b]? = w.heap[b]? := fun b hb => (hg1.block b (by simp; omega) (by simp [Value.ownBlock])).trans (Below.heap_alloc _ _ _ hb)
    have hcb1 : w1.heap[cb]? = some (.cells #[.slice none 0 0] 37 (0, 0)) := (h1 cb hcl).trans hcb
    have k0 : w1.cell? ⟨cb, 0, none⟩ = some (.slice none 0 0) := (World.cell?_of_block (w := w) (a := ⟨cb, 0, none⟩) (h1 cb hcl)).trans c0
    have f0 : w1.frozen? ⟨cb, 0, none⟩ = false := frozen_of_row w1 cb 0 _ _ hcb1
    have kl : w1.cell? ⟨lb, 0, none⟩ = some (.int .u64 lim) := (World.cell?_of_block (w := w) (a := ⟨lb, 0, none⟩) (h1 lb hll)).trans hl
    have kr : w1.cell? ⟨rb, 0, none⟩ = some (.iface 61 (.pointer (some r))) := (World.cell?_of_block (w := w) (a := ⟨rb, 0, none⟩) (h1 rb hrl)).trans hr
    have ho := ho1
    obtain ⟨g, cap, rfl⟩ : ∃ g cap, v1 = .slice (some ⟨g, 0, none⟩) 1 cap := by
      rcases ho.2 with ⟨_, h⟩ | ⟨g', cap, cur, hv, _⟩
      · omega
      · exact ⟨g', cap, hv⟩
    have hgl := ho.lt g rfl
    have kg : w1.cell? ⟨g, 0, none⟩ = some (.int .u64 n) := by rw [ho.cellAt 0 (by omega)]; rfl
    have hN : Noted w (w1.setCell ⟨cb, 0, none⟩ (.slice (some ⟨g, 0, none⟩) 1 cap)) cb n := by
      refine ⟨⟨hg1.os, hg1.tape, hg1.output, by simp [World.setCell]; omega, fun i hi hne => ?_⟩, g, cap, ?_, ?_, hgl.1⟩
      · rw [heap_setCell_other w1 ⟨cb, 0, none⟩ i _ (fun e => hne (by simp [e]))]
        exact h1 i hi
      · have := heap_setCell_same w1 cb 0 #[.slice none 0 0] 37 (.slice (some ⟨g, 0, none⟩) 1 cap) hcb1
        rw [cell_of_row _ cb 0 _ _ _ this]
        rfl
      · rw [← kg]
        exact World.cell?_of_block (w := w1) (a := ⟨g, 0, none⟩) (heap_setCell_other w1 ⟨cb, 0, none⟩ g _ (by simp; omega))
    have HN := hid_mk hN
    have kl2 : ∀ v, (w1.setCell ⟨cb, 0, none⟩ v).cell? ⟨lb, 0, none⟩ = some (.int .u64 lim) := fun v => (World.cell?_of_block (w := w1) (a := ⟨lb, 0, none⟩) (heap_setCell_other w1 ⟨cb, 0, none⟩ lb _ (by simpa using hlc))).trans kl
    have kr2 : ∀ v, (w1.setCell ⟨cb, 0, none⟩ v).cell? ⟨rb, 0, none⟩ = some (.iface 61 (.pointer (some r))) := fun v => (World.cell?_of_block (w := w1) (a := ⟨rb, 0, none⟩) (heap_setCell_other w1 ⟨cb, 0, none⟩ rb _ (by simpa using hrc))).trans kr
    clear hN ho1 hg1 hat1 hfull1 ho
    by_cases hlt : lim < n
    · have hE : Hid (e = .iface 61 (.pointer (some r))) := by rw [he.out, if_pos hlt]; exact hid_mk rfl
      have hlt' : (lim : Int) < (n : Int) := by omega
      go_wp2
      go_ret
      exact ⟨by rw [hE.out]; rfl, HN.out⟩
    · have hE : Hid (e = .nilIface) := by rw [he.out, if_neg hlt]; exact hid_mk rfl
      have hlt' : ¬ (lim : Int) < (n : Int) := by omega
      go_wp2
      go_ret
      exact ⟨by rw [hE.out]; rfl, HN.out⟩
end Go.Proofs.YbulkbzsuFmt

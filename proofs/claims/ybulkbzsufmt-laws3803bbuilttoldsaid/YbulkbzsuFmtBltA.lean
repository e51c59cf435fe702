import Derived.Test.YbulkbzsuFmtBlt
namespace Go.Proofs.YbulkbzsuFmt
open Go.RowKit Go.Extern.Stop Go.Stop Go.Extern
set_option linter.unusedVariables false
set_option linter.unusedSimpArgs false

abbrev refT : ByteArray := { data := #[122, 122, 115, 51, 56, 48, 51, 98, 32, 114, 101, 102, 117, 115, 101] }
abbrev sndT : ByteArray := { data := #[116, 104, 101, 32, 115, 101, 110, 100, 101, 114, 39, 115, 32, 105, 110, 100, 101, 120] }

set_option maxHeartbeats 400000 in
theorem new_walk (t : ByteArray) (w : World) : Calls Ybaf.prog 12 #[.string t] w fun e w' => e = .returned (.iface 61 (.pointer (some ⟨w.heap.size, 0, none⟩))) ∧ w' = w.alloc (.cells #[.string t] 63) := by
  go_enter Ybaf.func12, Ybaf.ntmps12
  go_wp2
  go_ret
  exact ⟨rfl, rfl⟩

abbrev w6of (w5 : World) : World := ((w5.alloc (.cells #[.string refT] 63)).alloc (.cells #[.iface 61 (.pointer (some ⟨w5.heap.size, 0, none⟩))] 26)).alloc (.cells #[.slice none 0 0] 37)

theorem w6_block (w5 : World) (b : Nat) (hb : b < w5.heap.size) : (w6of w5).heap[b]? = w5.heap[b]? :=
  (Below.heap_alloc _ _ _ (by simp; omega)).trans ((Below.heap_alloc _ _ _ (by simp; omega)).trans (Below.heap_alloc _ _ _ hb))
theorem w6_size (w5 : World) : (w6of w5).heap.size = w5.heap.size + 3 := by simp
theorem w6_calls (w5 : World) : (w6of w5).heap[w5.heap.size + 2]? = some (.cells #[.slice none 0 0] 37 (0, 0)) := by
  exact heap_new ((w5.alloc (.cells #[.string refT] 63)).alloc (.cells #[.iface 61 (.pointer (some ⟨w5.heap.size, 0, none⟩))] 26)) (.cells #[.slice none 0 0] 37) (w5.heap.size + 2) (by simp)
theorem w6_ref (w5 : World) : (w6of w5).cell? ⟨w5.heap.size + 1, 0, none⟩ = some (.iface 61 (.pointer (some ⟨w5.heap.size, 0, none⟩))) := by
  have h1 := heap_new (w5.alloc (.cells #[.string refT] 63)) (.cells #[.iface 61 (.pointer (some ⟨w5.heap.size, 0, none⟩))] 26) (w5.heap.size + 1) (by simp)
  have h2 : (w6of w5).heap[w5.heap.size + 1]? = some (.cells #[.iface 61 (.pointer (some ⟨w5.heap.size, 0, none⟩))] 26 (0, 0)) := (Below.heap_alloc _ _ _ (by simp)).trans h1
  rw [cell_of_row _ _ _ _ _ _ h2]; rfl
theorem w6_below (w5 : World) {B : Nat} {w : World} (h : Below B w w5) (hB : B ≤ w5.heap.size) : Below B w (w6of w5) :=
  ((h.alloc hB _).alloc (by simp; omega) _).alloc (by simp; omega) _
theorem calls_cell {w : World} {cb : Nat} (h : w.heap[cb]? = some (.cells #[.slice none 0 0] 37 (0, 0))) : w.cell? ⟨cb, 0, none⟩ = some (.slice none 0 0) := by
  rw [cell_of_row w _ _ _ _ _ h]; rfl
theorem room_wrap {L D E Q : Nat} (hQ : Q = (L - D) / E) (hDl : D ≤ L) (hL : L ≤ 2000) : IntKind.u64.wrap (((L : Int) - (D : Int)) / (E : Int)) = (Q : Int) := by
  have h1 : ((L : Int) - (D : Int)) / (E : Int) = ((Q : Nat) : Int) := by
    rw [hQ, Int.natCast_ediv, Int.natCast_sub hDl]
  have h2 : Q ≤ L := by rw [hQ]; exact Nat.le_trans (Nat.div_le_self _ _) (by omega)
  rw [h1]
  simp only [IntKind.wrap, IntKind.bits, IntKind.signed]
  simp
  omega
theorem eql_refuse (a : Addr) (w : World) : (binOp BinOp.eql 26 (.iface 61 (.pointer (some a))) (.iface 61 (.pointer (some a)))).run Ybaf.prog w = .ok (.bool true) w := by
  obtain ⟨i, hi, hcmp⟩ := Option.map_eq_some_iff.1 Ybaf.isComp
  obtain ⟨j, hj0, hj⟩ := Option.map_eq_some_iff.1 Ybaf.isSize
  first | exact run_eql_iface_ptr_same (P := Ybaf.prog) w a Ybaf.underlying26 Ybaf.underlying61 hi hcmp hj0 | simpa using run_eql_iface_ptr_same (P := Ybaf.prog) w a Ybaf.underlying26 Ybaf.underlying61 hi hcmp hj0
end Go.Proofs.YbulkbzsuFmt

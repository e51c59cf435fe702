import Derived.Test.YbulkbzsuFmtShelfB
import Derived.Lib.AppendIntMem
import Derived.WalkKit
import Derived.Below
namespace Go.Proofs.YbulkbzsuFmt
open Go.RowKit Go.Sort Go.Lib
set_option linter.unusedVariables false
set_option linter.unusedSimpArgs false

abbrev encB : UInt8 → Value := fun b => Value.int .u8 (b.toNat : Int)

theorem fin0 (w : World) (o : Obj) (dk : Array UInt8) (k : Nat) : Below w.heap.size w ((putRow encB (w.alloc o) w.heap.size 0 dk).drewN k) := by
  rw [alloc_eq_grow]
  obtain ⟨os', _, e⟩ := putRow_grow_new encB w #[o] w.heap.size 0 dk (Nat.le_refl _)
  rw [e]
  exact ⟨rfl, rfl, rfl, by simp [grow], fun b hb => by
    show (w.heap ++ os')[b]? = _
    rw [Array.getElem?_append_left hb]⟩

set_option maxHeartbeats 6400000 in
set_option maxRecDepth 100000 in
theorem fu_in (u : Nat) (hu64 : u < 18446744073709551616) (w : World) (htab : Lib.TabIs Ybaf.prog w "internal/strconv.uint64pow10" .u64 Lib.pow10Tab) :
    Calls Ybaf.prog 26 #[.int .u64 u, .int .i64 10] w fun e w' => e = .returned (.string ⟨(Lib.decDigits u).toArray⟩) ∧ Below w.heap.size w w' := by
  by_cases hs : u < 100
  · have hs' : (u : Int) < 100 := by omega
    have HS := Lib.hid (Ybaf.internal_strconv_small u hs)
    go_enter Ybaf.func26, Ybaf.ntmps26
    go_wp2_with fail
    refine (HS.out _).mono ?_
    rintro e w' ⟨rfl, rfl⟩
    go_wp2
    go_ret
    exact ⟨rfl, Below.refl _ _⟩
  · have hs' : ¬ (u : Int) < 100 := by omega
    have hu1 : 1 ≤ u := by omega
    have hnd20 : Lib.nDigits u ≤ 20 := by have := Lib.numDigits_eq u hu1 hu64; split at this <;> omega
    have hal : Ybaf.prog.arrayLen 83 = 24 := by simp [Program.arrayLen, Ybaf.underlying83]
    have hsl : ∀ W, (Instr.sliceAt 83 (.pointer (some ⟨w.heap.size, 0, none⟩)) none (some (.int .i64 (Lib.nDigits u : Int))) none).run Ybaf.prog W = .ok (.slice (some ⟨w.heap.size, 0, none⟩) (Lib.nDigits u) 24) W := fun W => by
      rw [run_sliceAt_array_h W 83 ⟨w.heap.size, 0, none⟩ (by simp [Program.arrayLen, Program.elem, Ybaf.underlying83]) .i64 (Lib.nDigits u : Int) (by omega) (by rw [hal]; omega)]
      go_simp
    have hH0 := Lib.holds_zero0 w 83 (Lib.nDigits u) (by omega)
    have hfmt := Ybaf.internal_strconv_formatBase10 w.heap.size 0 24 u (Array.replicate (Lib.nDigits u) 0) (w.alloc (.cells Lib.zeros24 83)) hH0 (by rw [Array.size_replicate]; exact Lib.lt_pow_nDigits u) hu64 (by rw [Array.size_replicate]; omega)
    rw [Array.size_replicate] at hfmt
    have HH0 := Lib.hid hH0
    have HF := Lib.hid hfmt
    have HND := Lib.hid (Ybaf.internal_strconv_numDigits u hu1 hu64 _ (Lib.tabIs_alloc htab (.cells Lib.zeros24 83)))
    clear hH0 hal hfmt
    go_enter Ybaf.func26, Ybaf.ntmps26
    go_wp2_with fail
    refine HND.out.mono ?_
    rintro e w' ⟨rfl, rfl⟩
    go_wp2_with fail
    refine HF.out.mono ?_
    rintro e w' ⟨rfl, k, v', dk, rfl, hF⟩
    have hcv : (convert 33 9 (.slice (some ⟨w.heap.size, 0, none⟩) (Lib.nDigits u) 24)).run Ybaf.prog ((putRow encB (w.alloc (.cells Lib.zeros24 83)) w.heap.size 0 dk).drewN k) = .ok (.string ⟨(Lib.decDigits u).toArray⟩) ((putRow encB (w.alloc (.cells Lib.zeros24 83)) w.heap.size 0 dk).drewN k) := by
      have h := run_convert_bytes_back (P := Ybaf.prog) ((putRow encB (w.alloc (.cells Lib.zeros24 83)) w.heap.size 0 dk).drewN k) 33 9 5 ⟨w.heap.size, 0, none⟩ 24 (Lib.decDigits u) Ybaf.underlying33 Ybaf.underlying5 Ybaf.underlying9 (fun j hj => by
        rw [Lib.row_is_numeral hF j hj, Lib.add_plain, World.cell?_drewN]
        exact cell?_putRow encB _ w.heap.size 0 _ dk HH0.out (by rw [hF.size, Array.size_replicate]) j (by rw [hF.size]; rw [Lib.decDigits_length] at hj; exact hj))
      rw [Lib.decDigits_length] at h
      exact h
    have HB := Lib.hid (fin0 w (.cells Lib.zeros24 83) dk k)
    clear HF HND HH0 hF
    go_wp2
    go_ret
    exact ⟨rfl, HB.out⟩

theorem fu_walk (u : Nat) (hu64 : u < 18446744073709551616) (w : World) (htab : Lib.TabIs Ybaf.prog w "internal/strconv.uint64pow10" .u64 Lib.pow10Tab) :
    Calls Ybaf.prog 9 #[.int .u64 u, .int .i64 10] w fun e w' => e = .returned (.string ⟨(Lib.decDigits u).toArray⟩) ∧ Below w.heap.size w w' := by
  have H := Lib.hid (fu_in u hu64 w htab)
  go_enter Ybaf.func9, Ybaf.ntmps9
  go_wp2_with fail
  refine H.out.mono ?_
  rintro e w' ⟨rfl, bel⟩
  go_wp2
  go_ret
  exact ⟨rfl, bel⟩
end Go.Proofs.YbulkbzsuFmt

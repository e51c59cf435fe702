import Derived.Test.YbulkbzsuFmtErrA
import Derived.Test.YbulkbzsuFmtShelfA
import Derived.Test.YbulkbzsuFmtModel
import Derived.Laws.ResultCell
namespace Go.Proofs.YbulkbzsuFmt
open Go.RowKit Go.Extern.Stop Go.Stop Go.Extern
set_option linter.unusedVariables false
set_option linter.unusedSimpArgs false

theorem hide {p : Prop} (h : p) : Hid p := h

/-- strconv's two error variables: each holds some error or nil. -/
structure Errs (w : World) (v6 v7 : Value) : Prop where
  c6 : w.cell? ⟨6, 0, none⟩ = some v6
  c7 : w.cell? ⟨7, 0, none⟩ = some v7
  i6 : v6 = .nilIface ∨ ∃ te pe, v6 = .iface te pe
  i7 : v7 = .nilIface ∨ ∃ te pe, v7 = .iface te pe

theorem Errs.mono {w w' : World} {v6 v7 : Value} (h : Errs w v6 v7) (hb : ∀ b, b < w.heap.size → w'.heap[b]? = w.heap[b]?) : Errs w' v6 v7 :=
  ⟨(World.cell?_of_block (w := w) (a := ⟨6, 0, none⟩) (hb _ (World.block_lt_of_cell? w _ h.c6))).trans h.c6, (World.cell?_of_block (w := w) (a := ⟨7, 0, none⟩) (hb _ (World.block_lt_of_cell? w _ h.c7))).trans h.c7, h.i6, h.i7⟩

def PuEnd (w : World) (t : ByteArray) (e : Ending) (w' : World) : Prop :=
  ∃ n ev, e = .returned (.tuple #[.int .u64 n, ev]) ∧ Below w.heap.size w w' ∧ ((∃ u : Nat, Lib.parseUintB 64 t.data.toList = .ok u ∧ n = u ∧ ev = .nilIface) ∨ ((∀ u, Lib.parseUintB 64 t.data.toList ≠ .ok u) ∧ ∃ p, ev = .iface 103 (.pointer (some p))))

theorem parse_walk (t : ByteArray) (ht : t.size ≤ 100000) (v6 v7 : Value) (w : World) (hE : Errs w v6 v7) :
    Calls Ybaf.prog 19 #[.string t, .int .i64 10, .int .i64 64] w fun e w' => PuEnd w t e w' := by
  cases h : Lib.parseUintB 64 t.data.toList with
  | ok u =>
    refine (Ybaf.strconv_ParseUint_10_at64_ok t (by omega) u h w).mono ?_
    rintro e w' ⟨rfl, hw⟩
    refine ⟨_, _, rfl, ?_, .inl ⟨u, h, rfl, rfl⟩⟩
    rcases hw with rfl | rfl
    · exact Below.refl _ _
    · exact Lib.bytesWorld_below _ _ _
  | «syntax» =>
    refine (Ybaf.strconv_ParseUint_10_at64_syntax t (by omega) h v6 w hE.c6 hE.i6).mono ?_
    rintro e w' ⟨N, rfl, _, _, bel⟩
    exact ⟨_, _, rfl, bel, .inr ⟨(fun u hu => by rw [h] at hu; cases hu), _, rfl⟩⟩
  | range =>
    refine (Ybaf.strconv_ParseUint_10_at64_range t (by omega) h v7 w hE.c7 hE.i7).mono ?_
    rintro e w' ⟨N, rfl, _, _, bel⟩
    exact ⟨_, _, rfl, bel, .inr ⟨(fun u hu => by rw [h] at hu; cases hu), _, rfl⟩⟩

def NmEnd (w : World) (s : ByteArray) (e : Ending) (w' : World) : Prop :=
  ∃ h n ev, e = .returned (.tuple #[.agg #[.string h, .int .u64 n], ev]) ∧ Below w.heap.size w w' ∧
    ((nameOf s = none ∧ h = ByteArray.empty ∧ n = 0 ∧ ∃ p, ev = .iface 61 (.pointer (some p))) ∨ (∃ u : Nat, nameOf s = some (h, u) ∧ n = u ∧ ev = .nilIface))

theorem two_cells {w : World} {b : Nat} {u0 u1 v0 v1 : Value} (h : w.heap[b]? = some (.cells #[u0, u1] 24 (0, 0))) :
    ((w.setCell ⟨b, 0, none⟩ v0).setCell ⟨b, 1, none⟩ v1).cell? ⟨b, 0, none⟩ = some v0 ∧ ((w.setCell ⟨b, 0, none⟩ v0).setCell ⟨b, 1, none⟩ v1).cell? ⟨b, 1, none⟩ = some v1 := by
  have h1 := heap_setCell_same w b 0 _ _ v0 h
  have h2 := heap_setCell_same (w.setCell ⟨b, 0, none⟩ v0) b 1 _ _ v1 h1
  exact ⟨by rw [cell_of_row _ b 0 _ _ _ h2]; rfl, by rw [cell_of_row _ b 1 _ _ _ h2]; rfl⟩

set_option maxHeartbeats 1000000 in
theorem name_walk (F : Interp) (s : ByteArray) (hs : s.size ≤ 10000) (v6 v7 : Value) (w : World) (hF : F.answers w.tape) (hE : Errs w v6 v7) :
    Calls Ybaf.prog 7 #[.string s] w fun e w' => NmEnd w s e w' := by
  have hL := fun w => Ybaf.strings_LastIndexByte s 58 (by omega) w
  have hspec := Lib.lastIdx_spec s 58 s.size
  obtain ⟨I, hI⟩ : ∃ I, Hid (I = Lib.lastIndexByte s 58) := ⟨_, hide rfl⟩
  have hIb : -1 ≤ I ∧ I < s.size := by
    have e : I = Lib.lastIdx s 58 s.size := hI.out
    rcases hspec with ⟨h1, _⟩ | ⟨i, h1, h2, _⟩ <;> omega
  have HL := hide hL
  clear hL hspec
  by_cases hneg : I < 0
  · have hnm : nameOf s = none := by unfold nameOf; rw [if_pos (by rw [← hI.out]; exact hneg)]
    have HN := hide hnm
    clear hnm
    go_enter Ybaf.func7, Ybaf.ntmps7
    go_wp2_with fail
    refine (HL.out _).mono ?_
    rintro e w1 ⟨rfl, rfl⟩
    rw [← hI.out]
    go_wp2_with (go_at_call 18; refine (errorf_G0 F s (w.heap.size + 1) _ (by exact hF) (by simp)).mono ?_; rintro e w2 ⟨rfl, u, rfl⟩)
    (try simp only [Exit.inBlock, Exit.then])
    refine bodyPost_ret (v := .tuple #[.agg #[.string ByteArray.empty, .int .u64 0], .iface 61 (.pointer (some ⟨w.heap.size + 1 + 1, 0, none⟩))]) ?_ rfl ⟨_, _, _, rfl, ?_, .inl ⟨HN.out, rfl, rfl, _, rfl⟩⟩
    · rw [results_cell_tmp rfl]; go_simp; rfl
    · (repeat' (first | exact Below.refl _ _ | refine Below.drew ?_ | refine Below.alloc ?_ (by simp <;> omega) _))
  · obtain ⟨j, hj⟩ : ∃ j : Nat, I = (j : Int) := ⟨I.toNat, by omega⟩
    subst hj
    have hjs : j < s.size := by omega
    obtain ⟨t, ht⟩ : ∃ t, Hid (t = s.extract (j + 1) s.size) := ⟨_, hide rfl⟩
    have hnm : nameOf s = match Lib.parseUintB 64 t.data.toList with | .ok u => some (s.extract 0 j, u) | _ => none := by
      unfold nameOf
      rw [if_neg (by rw [← hI.out]; exact hneg), ← hI.out, ht.out]
      have e : ((j : Int) + 1).toNat = j + 1 := by omega
      rw [e]
      rfl
    have hts : t.size ≤ 100000 := by rw [ht.out]; simp; omega
    have HN := hide hnm
    have HPu := hide (fun w' (hE' : Errs w' v6 v7) => parse_walk t hts v6 v7 w' hE')
    have HE := hide hE
    clear hnm hE
    go_enter Ybaf.func7, Ybaf.ntmps7
    go_wp2_with fail
    refine (HL.out _).mono ?_
    rintro e w1 ⟨rfl, rfl⟩
    rw [← hI.out]
    go_wp2_with fail
    rw [← ht.out]
    have hal : ∀ b, b < w.heap.size → (w.alloc (.cells #[.string { data := #[] }, .int .u64 0] 24)).heap[b]? = w.heap[b]? := fun b hb => Below.heap_alloc _ _ _ hb
    refine (HPu.out _ (HE.out.mono hal)).mono ?_
    rintro e w2 ⟨n, ev, rfl, bel2, hend⟩
    have hs2 := bel2.size
    simp at hs2
    have hcw : w2.heap[w.heap.size]? = some (.cells #[.string { data := #[] }, .int .u64 0] 24 (0, 0)) := (bel2.block w.heap.size (by simp)).trans (heap_alloc_new w _)
    have hc0 : w2.cell? ⟨w.heap.size, 0, none⟩ = some (.string { data := #[] }) := by rw [cell_of_row w2 _ _ _ _ _ hcw]; rfl
    have hc1 : w2.cell? ⟨w.heap.size, 1, none⟩ = some (.int .u64 0) := by rw [cell_of_row w2 _ _ _ _ _ hcw]; rfl
    have hf0 : w2.frozen? ⟨w.heap.size, 0, none⟩ = false := frozen_of_row w2 _ _ _ _ hcw
    have hf1 : w2.frozen? ⟨w.heap.size, 1, none⟩ = false := frozen_of_row w2 _ _ _ _ hcw
    have belw : Below w.heap.size w w2 := ((Below.refl _ w).alloc (Nat.le_refl _) _).trans (bel2.mono (by simp))
    have hF2 : F.answers w2.tape := by rw [belw.tape]; exact hF
    clear bel2 hal HPu HE
    rcases hend with ⟨u, hu, rfl, rfl⟩ | ⟨hu, pp, rfl⟩
    · have hN2 : nameOf s = some (s.extract 0 j, u) := by rw [HN.out, hu]
      have HN2 := hide hN2
      clear hN2 hu HN
      have hres := two_cells (v0 := .string (s.extract 0 j)) (v1 := .int .u64 (u : Int)) hcw
      obtain ⟨r0, r1⟩ := hres
      have HB := hide ((belw.setCell (p := ⟨w.heap.size, 0, none⟩) (Nat.le_refl _) (.string (s.extract 0 j))).setCell (p := ⟨w.heap.size, 1, none⟩) (Nat.le_refl _) (.int .u64 (u : Int)))
      clear hcw
      go_wp2
      (try simp only [Exit.inBlock, Exit.then])
      refine bodyPost_ret (v := .tuple #[.agg #[.string (s.extract 0 j), .int .u64 (u : Int)], .nilIface]) ?_ rfl ⟨_, _, _, rfl, HB.out, .inr ⟨u, HN2.out, rfl, rfl⟩⟩
      rw [results_cell_tmp rfl]; go_simp
    · have hN2 : nameOf s = none := by
        rw [HN.out]
        cases h : Lib.parseUintB 64 t.data.toList with
        | ok u => exact absurd h (hu u)
        | _ => rfl
      have HN2 := hide hN2
      clear hN2 hu HN
      go_wp2_with fail
      refine (errorf_G1 F s (s.extract (j + 1) s.size) w2.heap.size _ (by exact hF2) (by simp) (by simp)).mono ?_
      rintro e w3 ⟨rfl, uu, hw3⟩
      have bel3 : Below w2.heap.size w2 w3 := by
        rw [hw3]; exact (((Below.refl _ w2).alloc (Nat.le_refl _) _).alloc (by simp) _).drew
      have hcw3 := (bel3.block w.heap.size (by omega)).trans hcw
      have belw3 := belw.trans (bel3.mono (by omega))
      have kc0 : w3.cell? ⟨w.heap.size, 0, none⟩ = some (.string { data := #[] }) := by rw [cell_of_row w3 _ _ _ _ _ hcw3]; rfl
      have kc1 : w3.cell? ⟨w.heap.size, 1, none⟩ = some (.int .u64 0) := by rw [cell_of_row w3 _ _ _ _ _ hcw3]; rfl
      have kf0 : w3.frozen? ⟨w.heap.size, 0, none⟩ = false := frozen_of_row w3 _ _ _ _ hcw3
      have kf1 : w3.frozen? ⟨w.heap.size, 1, none⟩ = false := frozen_of_row w3 _ _ _ _ hcw3
      clear hw3 hc0 hc1 hf0 hf1 hcw bel3 belw
      obtain ⟨r0, r1⟩ := two_cells (v0 := .string { data := #[] }) (v1 := .int .u64 0) hcw3
      have HB := hide ((belw3.setCell (p := ⟨w.heap.size, 0, none⟩) (Nat.le_refl _) (.string { data := #[] })).setCell (p := ⟨w.heap.size, 1, none⟩) (Nat.le_refl _) (.int .u64 0))
      clear hcw3
      go_wp2
      (try simp only [Exit.inBlock, Exit.then])
      refine bodyPost_ret (v := .tuple #[.agg #[.string { data := #[] }, .int .u64 0], .iface 61 (.pointer (some ⟨w2.heap.size + 1, 0, none⟩))]) ?_ rfl ⟨_, _, _, rfl, HB.out, .inl ⟨HN2.out, rfl, rfl, _, rfl⟩⟩
      rw [results_cell_tmp rfl]; go_simp
end Go.Proofs.YbulkbzsuFmt

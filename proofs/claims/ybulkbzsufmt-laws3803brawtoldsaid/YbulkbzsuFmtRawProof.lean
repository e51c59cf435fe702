import Derived.Test.YbulkbzsuFmtRows
import Derived.Test.YbulkbzsuFmtTie
import Derived.Test.YbulkbzsuFmtCards
import Derived.Test.YbulkbzsuFmtOpen
import Derived.Test.YbulkbzsuFmtRaw
import Derived.SevenTiedAt
import Derived.SevenToldTied
namespace Go.Proofs.YbulkbzsuFmt
open Go.ChangeShapes Go.WideShapes Go.ChangeAt Go.RowKit
open Go.Extern.Stop Go.Stop Go.Extern
set_option linter.unusedVariables false

theorem Ybaf.laidOut' : laidOutB Ybaf.pinned.checked.prog = true := by kernel_rfl
theorem Ybaf.stops : Ybaf.pinned.checked.prog.stops = ["fmt.errorf, its operands' methods called", "fmt.Sprintf, its operands' methods called"] := by kernel_rfl
theorem Ybaf.stopKnobs : Ybaf.pinned.checked.prog.stopKnobs = [] := by kernel_rfl
theorem Ybaf.quiet (os : Os) : Stop.quiet Ybaf.pinned.checked.prog os := by
  intro k hk
  rw [Ybaf.stopKnobs] at hk
  cases hk

theorem metRaw (os : Os) (args : Array Value) : laidMetH Ybaf.prog Rows.lawS3803BRawRow.laid ((World.laidAll Ybaf.prog os Rows.lawS3803BRawRow.laid).forCall (fun _ _ => 0) ⟨#[], args, []⟩).memory := by
  rw [MakeChecks.laidMetH_plain _ _ _ (by kernel_rfl)]
  exact laidMet_laidAll _ (by kernel_rfl) (by kernel_rfl)

set_option maxRecDepth 100000 in
theorem liftedRaw (os : Os) (started : os.Started) (H : Type) (enc : TypeId × Value → H) :
    ReturnsInTold none {} Ybaf.checked os 6 .any Input.okWide ((OpenSpec.ofChange Rows.lawS3803BRawSpec).preRow enc Ybaf.prog Ybaf.f6 Rows.lawS3803BRawRow.domain false Rows.lawS3803BRawRow.laid)
      (fun F => ((OpenSpec.ofChange Rows.lawS3803BRawSpec).at F).post enc Ybaf.prog Ybaf.f6 false true false false) (aloneAtReturn Ybaf.prog) nothingAlways := by
  refine returnsInTold_of_row (C := Ybaf.checked) (s := OpenSpec.ofChange Rows.lawS3803BRawSpec) (by kernel_rfl) own started (by kernel_rfl) Ybaf.func6
    (witness_zip (enc := enc) (C := Ybaf.checked) (World.laidAll Ybaf.prog os Rows.lawS3803BRawRow.laid) #[.slice none 0 0, .int .u8 0, .int .u8 0] (World.laidAll_os _ _ _) (World.shaped_of_ZipB (by kernel_rfl) (by kernel_rfl)) (by kernel_rfl)
      (OpenSpec.preRow_of_B rfl 8 (by kernel_rfl) (by kernel_rfl) (metRaw os _))) ?_
  intro F W base args ds gs before _ hF hval0 hW _ _ _ hL0 _
  have hL : laidMet Ybaf.prog Rows.lawS3803BRawRow.laid W := by
    have := hL0
    rw [MakeChecks.laidMetH_plain _ _ _ (by kernel_rfl)] at this
    exact this
  have hval : ∀ (j : Nat) t v, Ybaf.f6.params[j]? = some t → args[j]? = some v → Value.okWide Ybaf.prog W .any base t v := hval0
  have hW' := hW
  obtain ⟨p, q, hA0, hV0, rfl, hfz, hnd⟩ := hW
  have hA : DataW.TrodAll enc Ybaf.prog W 0 (fun _ => true) true Ybaf.f6.params.toList args.toList ds p := hA0
  have hV : DataW.TrodVars enc Ybaf.prog W (fun _ => true) names gs q := hV0
  rw [Ybaf.params6] at hA hval
  obtain ⟨v0, vs0, d0, ds0, p0, q0, hargs, rfl, rfl, h0, r0⟩ := trodAll_cons hA
  obtain ⟨v1, vs1, d1, ds1, p1, q1, rfl, rfl, rfl, h1, r1⟩ := trodAll_cons r0
  obtain ⟨v2, vs2, d2, ds2, p2, q2, rfl, rfl, rfl, h2, r2⟩ := trodAll_cons r1
  obtain ⟨rfl, rfl, rfl⟩ := trodAll_nil r2
  obtain rfl : args = #[v0, v1, v2] := by cases args; simp_all
  obtain ⟨a0, len0, cap0, rfl⟩ := okWide_slice Ybaf.underlying33 (hval 0 33 v0 rfl rfl)
  have k0 := h0
  have lt0 : ∀ x ∈ p0, x.block < W.heap.size := by obtain ⟨m, hm⟩ := k0; exact DataW.trod_lt m _ _ _ hm
  obtain ⟨n1, rfl, rfl, rfl, w1⟩ := open_int Ybaf.underlying5 (hval 1 5 v1 rfl rfl) h1
  obtain ⟨n2, rfl, rfl, rfl, w2⟩ := open_int Ybaf.underlying5 (hval 2 5 v2 rfl rfl) h2
  obtain ⟨l, hb⟩ : ∃ l, BytesIn W (Value.slice a0 len0 cap0) l := by
    obtain ⟨fuel, hf⟩ := h0
    exact open_bytes (x := _) hf
  obtain ⟨e0, e3, e4, e5, t0, t3, t4, t5, g0, g3, g4, g5, hS⟩ := of_laid hL
  obtain ⟨rfl, rfl⟩ := hV.unique (vars_read enc g0 g3 g4 g5 trivial trivial trivial trivial _)
  clear hA0 hV0 hval0
  have hB : 6 ≤ W.heap.size := var_lt gLong g5
  refine (raw_walk F.told e0 e3 e4 e5 t0 t3 t4 t5 _ l n1 n2 W hF hS hb (bounds_u8 w1).1 (bounds_u8 w1).2 (bounds_u8 w2).1 (bounds_u8 w2).2).mono fun e W' ⟨he, bel⟩ => ?_
  subst he
  exact ⟨_, rfl, _, _, _, [], _, _, hW', trodAll_mk1 (shut_bool Ybaf.underlying4 _), (trodAll_cons_mk (Below.trod laidOut (by kernel_rfl) (of_decide_eq_true (by kernel_rfl)) k0 bel lt0) (trodAll_cons_mk (shut_int Ybaf.underlying5 w1) (trodAll_cons_mk (shut_int Ybaf.underlying5 w2) trodAll_mk0))),
    vars_read enc (var?_below bel gBad (by omega) g0) (var?_below bel gShort (by omega) g3) (var?_below bel gOver (by omega) g4) (var?_below bel gLong (by omega) g5) trivial trivial trivial trivial _, bel.frame _, fun h => by cases h⟩

theorem raw_proved : Rows.LawS3803BRawToldSaid :=
  Claim7.holds_of_told_tied_any_at .later 6 Ybaf.f6 "fmt.errorf, its operands' methods called" ["fmt.Sprintf, its operands' methods called"] [] _ _ _ _ _ (by kernel_rfl) rfl rfl rfl Ybaf.laidOut' (by kernel_rfl) rfl ⟨rfl, rfl, rfl, rfl, rfl, rfl, rfl⟩ rfl rfl (by kernel_rfl) (by kernel_rfl) Ybaf.func6 (by kernel_rfl)
    (of_decide_eq_true (by kernel_rfl)) (by unfold Func.isWrapper; first | (rw [if_pos (by decide +kernel)]; kernel_rfl) | (rw [if_neg (by decide +kernel)]; exact ⟨rfl, rfl⟩)) Ybaf.stops.symm rfl Ybaf.stopKnobs.symm (by kernel_rfl)
    (by kernel_rfl) (by kernel_rfl) (by kernel_rfl) (by kernel_rfl) (by kernel_rfl) (by kernel_rfl) (by kernel_rfl) (by kernel_rfl) (by kernel_rfl) rfl (by kernel_rfl) rfl rfl
    rfl rfl
    rfl (by kernel_rfl) (by kernel_rfl) (by kernel_rfl) (by decide) (by kernel_rfl) lawS3803BRaw_row_tie
    (OpenClaim.moreEntering_of (by kernel_rfl) (by kernel_rfl) (by kernel_rfl) (by kernel_rfl) (by kernel_rfl) (by kernel_rfl) (by kernel_rfl) (by kernel_rfl) (by kernel_rfl) (by kernel_rfl))
    ⟨_, WideRow.started_initial, Ybaf.quiet _⟩
    (fun os started _ H enc _ => liftedRaw os started H enc)
#print axioms raw_proved
end Go.Proofs.YbulkbzsuFmt

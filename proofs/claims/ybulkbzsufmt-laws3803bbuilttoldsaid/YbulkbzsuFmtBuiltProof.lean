import Derived.Test.YbulkbzsuFmtRows
import Derived.Test.YbulkbzsuFmtTie
import Derived.Test.YbulkbzsuFmtCards
import Derived.Test.YbulkbzsuFmtOpen
import Derived.Test.YbulkbzsuFmtBuilt
import Derived.SevenTiedAt
import Derived.SevenToldTied
namespace Go.Proofs.YbulkbzsuFmt
open Go.ChangeShapes Go.WideShapes Go.ChangeAt Go.RowKit
open Go.Extern.Stop Go.Stop Go.Extern
set_option linter.unusedVariables false

theorem Ybaf.laidOut' : laidOutB Ybaf.pinned.checked.prog = true := by kernel_rfl
theorem Ybaf.stops : Ybaf.pinned.checked.prog.stops = ["fmt.errorf, its operands' methods called", "fmt.Sprintf, its operands' methods called"] := by kernel_rfl
theorem Ybaf.stopKnobs : Ybaf.pinned.checked.prog.stopKnobs = [] := by kernel_rfl
theorem Ybaf.quiet (os : Os) : Stop.quiet Ybaf.pinned.checked.prog os := by
  intro k hk
  rw [Ybaf.stopKnobs] at hk
  cases hk

theorem metBuilt (os : Os) (args : Array Value) : laidMetH Ybaf.prog Rows.lawS3803BBuiltRow.laid ((World.laidAll Ybaf.prog os Rows.lawS3803BBuiltRow.laid).forCall (fun _ _ => 0) ⟨#[], args, []⟩).memory := by
  rw [MakeChecks.laidMetH_plain _ _ _ (by kernel_rfl)]
  exact laidMet_laidAll _ (by kernel_rfl) (by kernel_rfl)

set_option maxRecDepth 100000 in
theorem liftedBuilt (os : Os) (started : os.Started) (H : Type) (enc : TypeId × Value → H) :
    ReturnsInTold none {} Ybaf.checked os 5 .any Input.okWide ((OpenSpec.ofChange Rows.lawS3803BBuiltSpec).preRow enc Ybaf.prog Ybaf.f5 Rows.lawS3803BBuiltRow.domain false Rows.lawS3803BBuiltRow.laid)
      (fun F => ((OpenSpec.ofChange Rows.lawS3803BBuiltSpec).at F).post enc Ybaf.prog Ybaf.f5 false true false false) (aloneAtReturn Ybaf.prog) nothingAlways := by
  refine returnsInTold_of_row (C := Ybaf.checked) (s := OpenSpec.ofChange Rows.lawS3803BBuiltSpec) (by kernel_rfl) own started (by kernel_rfl) Ybaf.func5
    (witness_zip (enc := enc) (C := Ybaf.checked) (World.laidAll Ybaf.prog os Rows.lawS3803BBuiltRow.laid) #[.int .u8 0, .bool false, .int .u64 0, .int .u64 0, .slice none 0 0, .int .u8 0, .bool false, .int .u64 0] (World.laidAll_os _ _ _) (World.shaped_of_ZipB (by kernel_rfl) (by kernel_rfl)) (by kernel_rfl)
      (OpenSpec.preRow_of_B rfl 8 (by kernel_rfl) (by kernel_rfl) (metBuilt os _))) ?_
  intro F W base args ds gs before _ hF hval0 hW _ _ _ hL0 _
  have hL : laidMet Ybaf.prog Rows.lawS3803BBuiltRow.laid W := by
    have := hL0
    rw [MakeChecks.laidMetH_plain _ _ _ (by kernel_rfl)] at this
    exact this
  have hval : ∀ (j : Nat) t v, Ybaf.f5.params[j]? = some t → args[j]? = some v → Value.okWide Ybaf.prog W .any base t v := hval0
  have hW' := hW
  obtain ⟨p, q, hA0, hV0, rfl, hfz, hnd⟩ := hW
  have hA : DataW.TrodAll enc Ybaf.prog W 0 (fun _ => true) true Ybaf.f5.params.toList args.toList ds p := hA0
  have hV : DataW.TrodVars enc Ybaf.prog W (fun _ => true) names gs q := hV0
  rw [Ybaf.params5] at hA hval
  obtain ⟨v0, vs0, d0, ds0, p0, q0, hargs, rfl, rfl, h0, r0⟩ := trodAll_cons hA
  obtain ⟨v1, vs1, d1, ds1, p1, q1, rfl, rfl, rfl, h1, r1⟩ := trodAll_cons r0
  obtain ⟨v2, vs2, d2, ds2, p2, q2, rfl, rfl, rfl, h2, r2⟩ := trodAll_cons r1
  obtain ⟨v3, vs3, d3, ds3, p3, q3, rfl, rfl, rfl, h3, r3⟩ := trodAll_cons r2
  obtain ⟨v4, vs4, d4, ds4, p4, q4, rfl, rfl, rfl, h4, r4⟩ := trodAll_cons r3
  obtain ⟨v5, vs5, d5, ds5, p5, q5, rfl, rfl, rfl, h5, r5⟩ := trodAll_cons r4
  obtain ⟨v6, vs6, d6, ds6, p6, q6, rfl, rfl, rfl, h6, r6⟩ := trodAll_cons r5
  obtain ⟨v7, vs7, d7, ds7, p7, q7, rfl, rfl, rfl, h7, r7⟩ := trodAll_cons r6
  obtain ⟨rfl, rfl, rfl⟩ := trodAll_nil r7
  obtain rfl : args = #[v0, v1, v2, v3, v4, v5, v6, v7] := by cases args; simp_all
  obtain ⟨n0, rfl, rfl, rfl, w0⟩ := open_int Ybaf.underlying5 (hval 0 5 v0 rfl rfl) h0
  obtain ⟨b1, rfl, rfl, rfl⟩ := open_bool Ybaf.underlying4 (hval 1 4 v1 rfl rfl) h1
  obtain ⟨n2, rfl, rfl, rfl, w2⟩ := open_int Ybaf.underlying22 (hval 2 22 v2 rfl rfl) h2
  obtain ⟨n3, rfl, rfl, rfl, w3⟩ := open_int Ybaf.underlying22 (hval 3 22 v3 rfl rfl) h3
  obtain ⟨a4, len4, cap4, rfl⟩ := okWide_slice Ybaf.underlying33 (hval 4 33 v4 rfl rfl)
  have k4 := h4
  have lt4 : ∀ x ∈ p4, x.block < W.heap.size := by obtain ⟨m, hm⟩ := k4; exact DataW.trod_lt m _ _ _ hm
  obtain ⟨n5, rfl, rfl, rfl, w5⟩ := open_int Ybaf.underlying5 (hval 5 5 v5 rfl rfl) h5
  obtain ⟨b6, rfl, rfl, rfl⟩ := open_bool Ybaf.underlying4 (hval 6 4 v6 rfl rfl) h6
  obtain ⟨n7, rfl, rfl, rfl, w7⟩ := open_int Ybaf.underlying22 (hval 7 22 v7 rfl rfl) h7
  obtain ⟨l, hb⟩ : ∃ l, BytesIn W (Value.slice a4 len4 cap4) l := by
    obtain ⟨fuel, hf⟩ := h4
    exact open_bytes (x := _) hf
  obtain ⟨m2, rfl⟩ : ∃ m : Nat, n2 = (m : Int) := ⟨n2.toNat, by have := bounds_u64 w2; omega⟩
  obtain ⟨m3, rfl⟩ : ∃ m : Nat, n3 = (m : Int) := ⟨n3.toNat, by have := bounds_u64 w3; omega⟩
  obtain ⟨m7, rfl⟩ : ∃ m : Nat, n7 = (m : Int) := ⟨n7.toNat, by have := bounds_u64 w7; omega⟩
  obtain ⟨e0, e3, e4, e5, t0, t3, t4, t5, g0, g3, g4, g5, hS⟩ := of_laid hL
  obtain ⟨rfl, rfl⟩ := hV.unique (vars_read enc g0 g3 g4 g5 trivial trivial trivial trivial _)
  clear hA0 hV0 hval0
  have hB : 6 ≤ W.heap.size := var_lt gLong g5
  refine (built_walk F.told e0 e3 e4 e5 t0 t3 t4 t5 _ l n0 n5 b1 b6 m2 m3 m7 W hF hS hb (bounds_u8 w0).1 (bounds_u8 w0).2 (bounds_u8 w5).1 (bounds_u8 w5).2 (by have := bounds_u64 w2; omega) (by have := bounds_u64 w3; omega) (by have := bounds_u64 w7; omega)).mono fun e W' ⟨he, bel⟩ => ?_
  subst he
  exact ⟨_, rfl, _, _, _, [], _, _, hW', trodAll_mk1 (shut_bool Ybaf.underlying4 _), (trodAll_cons_mk (shut_int Ybaf.underlying5 w0) (trodAll_cons_mk (shut_bool Ybaf.underlying4 _) (trodAll_cons_mk (shut_int Ybaf.underlying22 w2) (trodAll_cons_mk (shut_int Ybaf.underlying22 w3) (trodAll_cons_mk (Below.trod laidOut (by kernel_rfl) (of_decide_eq_true (by kernel_rfl)) k4 bel lt4) (trodAll_cons_mk (shut_int Ybaf.underlying5 w5) (trodAll_cons_mk (shut_bool Ybaf.underlying4 _) (trodAll_cons_mk (shut_int Ybaf.underlying22 w7) trodAll_mk0)))))))),
    vars_read enc (var?_below bel gBad (by omega) g0) (var?_below bel gShort (by omega) g3) (var?_below bel gOver (by omega) g4) (var?_below bel gLong (by omega) g5) trivial trivial trivial trivial _, bel.frame _, fun h => by cases h⟩

theorem built_proved : Rows.LawS3803BBuiltToldSaid :=
  Claim7.holds_of_told_tied_any_at .later 5 Ybaf.f5 "fmt.errorf, its operands' methods called" ["fmt.Sprintf, its operands' methods called"] [] _ _ _ _ _ (by kernel_rfl) rfl rfl rfl Ybaf.laidOut' (by kernel_rfl) rfl ⟨rfl, rfl, rfl, rfl, rfl, rfl, rfl⟩ rfl rfl (by kernel_rfl) (by kernel_rfl) Ybaf.func5 (by kernel_rfl)
    (of_decide_eq_true (by kernel_rfl)) (by unfold Func.isWrapper; first | (rw [if_pos (by decide +kernel)]; kernel_rfl) | (rw [if_neg (by decide +kernel)]; exact ⟨rfl, rfl⟩)) Ybaf.stops.symm rfl Ybaf.stopKnobs.symm (by kernel_rfl)
    (by kernel_rfl) (by kernel_rfl) (by kernel_rfl) (by kernel_rfl) (by kernel_rfl) (by kernel_rfl) (by kernel_rfl) (by kernel_rfl) (by kernel_rfl) rfl (by kernel_rfl) rfl rfl
    rfl rfl
    rfl (by kernel_rfl) (by kernel_rfl) (by kernel_rfl) (by decide) (by kernel_rfl) lawS3803BBuilt_row_tie
    (OpenClaim.moreEntering_of (by kernel_rfl) (by kernel_rfl) (by kernel_rfl) (by kernel_rfl) (by kernel_rfl) (by kernel_rfl) (by kernel_rfl) (by kernel_rfl) (by kernel_rfl) (by kernel_rfl))
    ⟨_, WideRow.started_initial, Ybaf.quiet _⟩
    (fun os started _ H enc _ => liftedBuilt os started H enc)
#print axioms built_proved
end Go.Proofs.YbulkbzsuFmt

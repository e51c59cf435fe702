import Derived.Test.YbulkbzsgDoorRows
import Derived.Test.YbulkbzsgDoorTie
import Derived.Test.YbulkbzsgDoorCards
import Derived.Test.YbulkbzsgDoorOpen
import Derived.Test.YbulkbzsgDoorCompress
import Derived.SevenTiedAt
import Derived.LaidMore
import Derived.Stop.Joined
namespace Go.Proofs.YbulkbzsgDoor
open Go.ChangeShapes Go.WideShapes Go.ChangeAt Go.RowKit
set_option linter.unusedVariables false

theorem metCompress (os : Os) (args : Array Value) : laidMetH Ybad.prog Rows.lawS3802CCompressRow.laid ((World.laidAll Ybad.prog os Rows.lawS3802CCompressRow.laid).forCall (fun _ _ => 0) ⟨#[], args, []⟩).memory := by
  rw [MakeChecks.laidMetH_plain _ _ _ (by kernel_rfl)]
  exact laidMet_laidAll _ (by kernel_rfl) (by kernel_rfl)

set_option maxRecDepth 100000 in
theorem liftedCompress (os : Os) (started : os.Started) (H : Type) (enc : TypeId × Value → H) :
    ReturnsInHanded {} Ybad.checked os 4 .any (fun w args => (Rows.lawS3802CCompressSpec.pre enc Ybad.prog Ybad.f4 [] false w args ∧ laidMetH Ybad.prog Rows.lawS3802CCompressRow.laid w) ∧ sizedMet enc Ybad.prog Ybad.f4 (OpenSpec.ofChange Rows.lawS3802CCompressSpec) false w args)
      (Rows.lawS3802CCompressSpec.post enc Ybad.prog Ybad.f4 false true false false) := by
  refine returnsInHanded_of_change_and (C := Ybad.checked) (X := fun w _ => laidMetH Ybad.prog Rows.lawS3802CCompressRow.laid w) (fun _ _ _ hh h => h.of_heap hh) own started (by kernel_rfl) Ybad.func4
    (ChangeSpec.witness_shaped (enc := enc) (C := Ybad.checked) (os := os) (X := fun w _ => laidMetH Ybad.prog Rows.lawS3802CCompressRow.laid w) false (World.laidAll Ybad.prog os Rows.lawS3802CCompressRow.laid) #[.slice none 0 0, .slice none 0 0, .slice none 0 0, .int .u32 0, .int .u32 0, .int .u32 0, .int .u32 0, .int .u32 0] 8 (World.laidAll_os _ _ _) (World.shaped_of_ZipB (by kernel_rfl) (by kernel_rfl)) (by kernel_rfl) (by kernel_rfl) (by kernel_rfl) (metCompress os _)) ?_
  intro W base args ds gs before hval0 hW _ _ hL0 _
  have hL : laidMet Ybad.prog Rows.lawS3802CPlainRow.laid W := by
    have := hL0
    rw [MakeChecks.laidMetH_plain _ _ _ (by kernel_rfl)] at this
    exact this
  have hval : ∀ (j : Nat) t v, Ybad.f4.params[j]? = some t → args[j]? = some v → Value.okWide Ybad.prog W .any base t v := hval0
  have hW' := hW
  obtain ⟨p, q, hA0, hV0, rfl, hfz, hnd⟩ := hW
  have hA : DataW.TrodAll enc Ybad.prog W 0 (fun _ => true) true Ybad.f4.params.toList args.toList ds p := hA0
  have hV : DataW.TrodVars enc Ybad.prog W (fun _ => true) names gs q := hV0
  rw [Ybad.params4] at hA hval
  obtain ⟨v0, vs0, d0, ds0, p0, q0, hargs, rfl, rfl, h0, r0⟩ := trodAll_cons hA
  obtain ⟨v1, vs1, d1, ds1, p1, q1, rfl, rfl, rfl, h1, r1⟩ := trodAll_cons r0
  obtain ⟨v2, vs2, d2, ds2, p2, q2, rfl, rfl, rfl, h2, r2⟩ := trodAll_cons r1
  obtain ⟨v3, vs3, d3, ds3, p3, q3, rfl, rfl, rfl, h3, r3⟩ := trodAll_cons r2
  obtain ⟨v4, vs4, d4, ds4, p4, q4, rfl, rfl, rfl, h4, r4⟩ := trodAll_cons r3
  obtain ⟨v5, vs5, d5, ds5, p5, q5, rfl, rfl, rfl, h5, r5⟩ := trodAll_cons r4
  obtain ⟨v6, vs6, d6, ds6, p6, q6, rfl, rfl, rfl, h6, r6⟩ := trodAll_cons r5
  obtain ⟨v7, vs7, d7, ds7, p7, q7, rfl, rfl, rfl, h7, r7⟩ := trodAll_cons r6
  obtain ⟨rfl, rfl, rfl⟩ := trodAll_nil r7
  obtain rfl : args = #[v0, v1, v2, v3, v4, v5, v6, v7] := by cases args; simp_all
  obtain ⟨a0, len0, cap0, rfl⟩ := okWide_slice Ybad.underlying22 (hval 0 22 v0 rfl rfl)
  obtain ⟨a1, len1, cap1, rfl⟩ := okWide_slice Ybad.underlying22 (hval 1 22 v1 rfl rfl)
  obtain ⟨a2, len2, cap2, rfl⟩ := okWide_slice Ybad.underlying22 (hval 2 22 v2 rfl rfl)
  have k0 := h0
  have lt0 : ∀ x ∈ p0, x.block < W.heap.size := by obtain ⟨m, hm⟩ := k0; exact DataW.trod_lt m _ _ _ hm
  have k1 := h1
  have lt1 : ∀ x ∈ p1, x.block < W.heap.size := by obtain ⟨m, hm⟩ := k1; exact DataW.trod_lt m _ _ _ hm
  have k2 := h2
  have lt2 : ∀ x ∈ p2, x.block < W.heap.size := by obtain ⟨m, hm⟩ := k2; exact DataW.trod_lt m _ _ _ hm
  obtain ⟨n3, rfl, rfl, rfl, w3⟩ := open_int Ybad.underlying24 (hval 3 24 v3 rfl rfl) h3
  obtain ⟨n4, rfl, rfl, rfl, w4⟩ := open_int Ybad.underlying24 (hval 4 24 v4 rfl rfl) h4
  obtain ⟨n5, rfl, rfl, rfl, w5⟩ := open_int Ybad.underlying24 (hval 5 24 v5 rfl rfl) h5
  obtain ⟨n6, rfl, rfl, rfl, w6⟩ := open_int Ybad.underlying24 (hval 6 24 v6 rfl rfl) h6
  obtain ⟨n7, rfl, rfl, rfl, w7⟩ := open_int Ybad.underlying24 (hval 7 24 v7 rfl rfl) h7
  obtain ⟨pa, pc, bs, hv0, hbs, hbb⟩ : ∃ (a : Option Addr) (c : Nat) (bs : List Int), Value.slice a0 len0 cap0 = .slice a bs.length c ∧ BytesIn W (Value.slice a0 len0 cap0) bs ∧ ∀ b ∈ bs, 0 ≤ b ∧ b ≤ 255 := by
    obtain ⟨fuel, hf⟩ := h0
    exact open_bytes (x := _) hf
  obtain ⟨ma, mc, mb, hv1, hmb, hmr⟩ : ∃ (a : Option Addr) (c : Nat) (bs : List Int), Value.slice a1 len1 cap1 = .slice a bs.length c ∧ BytesIn W (Value.slice a1 len1 cap1) bs ∧ ∀ b ∈ bs, 0 ≤ b ∧ b ≤ 255 := by
    obtain ⟨fuel, hf⟩ := h1
    exact open_bytes (x := _) hf
  obtain ⟨ra, rc, rb, hv2, hrb, hrr⟩ : ∃ (a : Option Addr) (c : Nat) (bs : List Int), Value.slice a2 len2 cap2 = .slice a bs.length c ∧ BytesIn W (Value.slice a2 len2 cap2) bs ∧ ∀ b ∈ bs, 0 ≤ b ∧ b ≤ 255 := by
    obtain ⟨fuel, hf⟩ := h2
    exact open_bytes (x := _) hf
  obtain ⟨e1, e2, e3, g1, g2, g3⟩ := of_laid hL
  obtain ⟨rfl, rfl⟩ := hV.unique (vars_read enc g1 g2 g3 trivial trivial trivial _)
  clear hA0 hV0 hval0
  have hE : Errs (.iface 51 (.pointer (some e1))) (.iface 51 (.pointer (some e2))) (.iface 51 (.pointer (some e3))) W :=
    ⟨by simpa using World.var?_cell gEmpty g1 0, by simpa using World.var?_cell gLabel g2 0, by simpa using World.var?_cell gName g3 0⟩
  have hB : 4 ≤ W.heap.size := var_lt gName g3
  rw [hv0] at hbs
  rw [hv1] at hmb
  rw [hv2] at hrb
  have hwk := compress_walk pa ma ra pc mc rc bs mb rb n3 n4 n5 n6 n7 _ _ _ W hE hB hbs hmb hrb hmr hrr (bounds_u32 w3) (bounds_u32 w4) (bounds_u32 w5) (bounds_u32 w6) (bounds_u32 w7) (fun k hk => by
    rcases k with _ | _ | _ | k
    · omega
    · exact ⟨e1, rfl⟩
    · exact ⟨e2, rfl⟩
    · exact ⟨e3, rfl⟩)
  rw [← hv0, ← hv1, ← hv2] at hwk
  refine hwk.mono fun e W' ⟨he, bel⟩ => ?_
  subst he
  refine ⟨_, rfl, _, _, _, [], _, _, hW', trodAll_mk1 (shut_bool Ybad.underlying4 _), (trodAll_cons_mk (Below.trod laidOut (by kernel_rfl) (of_decide_eq_true (by kernel_rfl)) k0 bel lt0) (trodAll_cons_mk (Below.trod laidOut (by kernel_rfl) (of_decide_eq_true (by kernel_rfl)) k1 bel lt1) (trodAll_cons_mk (Below.trod laidOut (by kernel_rfl) (of_decide_eq_true (by kernel_rfl)) k2 bel lt2) (trodAll_cons_mk (shut_int Ybad.underlying24 w3) (trodAll_cons_mk (shut_int Ybad.underlying24 w4) (trodAll_cons_mk (shut_int Ybad.underlying24 w5) (trodAll_cons_mk (shut_int Ybad.underlying24 w6) (trodAll_cons_mk (shut_int Ybad.underlying24 w7) trodAll_mk0)))))))),
    vars_read enc (var?_below bel gEmpty (by omega) g1) (var?_below bel gLabel (by omega) g2) (var?_below bel gName (by omega) g3) trivial trivial trivial _, bel.frame _, fun h => by cases h⟩

theorem compress_row : Rows.LawS3802CCompressSaid :=
  OpenClaim.holds_of_wide 4 Ybad.f4 rfl rfl rfl rfl rfl rfl rfl ⟨rfl, rfl, rfl, rfl, rfl⟩ rfl rfl rfl rfl rfl (by kernel_rfl) Ybad.func4 (by kernel_rfl)
    (of_decide_eq_true (by kernel_rfl)) (by unfold Func.isWrapper; first | (rw [if_pos (by decide +kernel)]; kernel_rfl) | (rw [if_neg (by decide +kernel)]; exact ⟨rfl, rfl⟩))
    (fun os started H enc _ => liftedCompress os started H enc)

theorem compress_proved : Rows.LawS3802CCompressCardSaid :=
  Claim7.holds_tied_plain_at .later [] [.sentinel, .sentinel, .sentinel] true (true, "3e4db5adbf31b39b74424524737fc922ccf886e9b4ec870faa00b94e92cc23a9") true
    compress_row (fun _ h => by cases h) (by kernel_rfl) (fun _ h => by cases h) lawS3802CCompress_row_tie rfl ⟨rfl, rfl⟩ (by kernel_rfl) rfl
    (fun f fn hf hfn => by
      obtain rfl : f = 4 := Option.some.inj ((show Ybad.prog.funcNamed "example.com/optwire/optwire/wire.LawS3802CCompress" = some 4 by kernel_rfl).symm.trans hf) |>.symm
      obtain rfl : fn = Ybad.f4 := (Option.some.inj (Ybad.func4.symm.trans hfn)).symm
      exact ⟨by kernel_rfl, fun j t ht => by
        rw [Ybad.params4] at ht
        have h3 : t = 22 ∨ t = 24 := by
          have hm := Array.mem_of_getElem? ht
          simp at hm
          omega
        rcases h3 with rfl | rfl
        · exact (show Ybad.prog.wantsStandIn 22 = false by kernel_rfl)
        · exact (show Ybad.prog.wantsStandIn 24 = false by kernel_rfl)⟩)
    (by kernel_rfl)
#print axioms compress_proved
end Go.Proofs.YbulkbzsgDoor

import Derived.Test.YbulkbzsuFmtForm
namespace Go.Proofs.YbulkbzsuFmt
open Go.RowKit Go.Extern.Stop Go.Stop Go.Extern
set_option linter.unusedVariables false
set_option linter.unusedSimpArgs false

/-- Where the varint at off ends. -/
def endOf (l : List UInt8) (off : Nat) : Nat := off + (Lib.uvarintDec (l.drop off)).2.toNat
def valOf (l : List UInt8) (off : Nat) : Nat := (Lib.uvarintDec (l.drop off)).1

def stRes (form : Int) (es : Nat) (l : List UInt8) : Option (Nat × Nat × Nat) :=
  if l = [] then none else if ((l.getD 0 0).toNat : Int) ≠ form then none else if rdErr (l.drop 1) ≠ 0 then none
  else if (l.length - endOf l 1) / es < valOf l 1 then none else if rdErr (l.drop (endOf l 1)) ≠ 0 then none
  else if valOf l 1 ≤ valOf l (endOf l 1) then none else some (valOf l 1, valOf l (endOf l 1), endOf l (endOf l 1))

def StEnd (w : World) (a0 : Addr) (r : Option (Nat × Nat × Nat)) (e : Ending) (w' : World) : Prop :=
  ∃ n p o ev, e = .returned (.tuple #[.int .u64 n, .int .u64 p, .int .i64 o, ev]) ∧ ((r = none ∧ n = 0 ∧ p = 0 ∧ o = 0 ∧ Bad w a0 ev w') ∨ (∃ n' p' o' : Nat, r = some (n', p', o') ∧ n = n' ∧ p = p' ∧ o = o' ∧ ev = .nilIface ∧ Below w.heap.size w w'))

theorem rd_pos {l : List UInt8} (h : rdErr l = 0) : 0 < (Lib.uvarintDec l).2 ∧ (Lib.uvarintDec l).2 ≤ l.length := by
  have h1 : 0 < (Lib.uvarintDec l).2 := by
    unfold rdErr at h
    split at h
    · cases h
    · split at h
      · cases h
      · omega
  obtain ⟨u, m, h3, h4, h5, _⟩ := dec_canon l 0 0 h1
  have h6 : (Lib.uvarintDec l).2 = ((0 + m : Nat) : Int) := h5
  exact ⟨h1, by omega⟩

theorem end_le {l : List UInt8} {off : Nat} (h : rdErr (l.drop off) = 0) (ho : off ≤ l.length) : off < endOf l off ∧ endOf l off ≤ l.length ∧ (off : Int) + (Lib.uvarintDec (l.drop off)).2 = (endOf l off : Nat) := by
  have h1 := rd_pos h
  rw [List.length_drop] at h1
  unfold endOf
  omega

theorem val_lt (l : List UInt8) (off : Nat) : valOf l off < 18446744073709551616 := Lib.uvarintDec_lt _

theorem results_tmp4 {fn : Func} {t u v x : Tmp} (h : fn.results = #[.tmp t, .tmp u, .tmp v, .tmp x]) (tmps : Array Value) (P : Program) (w : World) :
    (results fn tmps).run P w = .ok (.tuple #[tmps.getD t undef, tmps.getD u undef, tmps.getD v undef, tmps.getD x undef]) w := by
  simp [results, h]

theorem BytesAt.mono {w w' : World} {g o : Nat} {l : List UInt8} (h : BytesAt w g o l) (hb : ∀ b, b < w.heap.size → w'.heap[b]? = w.heap[b]?) : BytesAt w' g o l := fun j hj => by
  have h1 := h j hj
  exact (World.cell?_of_block (w := w) (a := ⟨g, o + j, none⟩) (hb _ (World.block_lt_of_cell? w _ h1))).trans h1

theorem neq_nilFunc (w : World) : (binOp BinOp.neq 38 Value.nilFunc Value.nilFunc).run Ybaf.prog w = .ok (.bool false) w := by kernel_rfl

abbrev numS : ByteArray := { data := #[116, 104, 101, 32, 110, 117, 109, 98, 101, 114, 32, 111, 102, 32, 101, 110, 116, 114, 105, 101, 115] }

set_option maxRecDepth 100000 in
set_option maxHeartbeats 1000000 in
theorem start_nil (F : Interp) (a0 a3 a4 a5 : Addr) (t0 t3 t4 t5 : ByteArray) (ao : Option Addr) (c : Nat) (form : Int) (es : Nat) (snd : ByteArray) (l : List UInt8) (w : World) (hF : F.answers w.tape) (hS : Sent a0 a3 a4 a5 t0 t3 t4 t5 w) (hl : l.length ≤ 100000) (hc : l.length ≤ c) (hcm : c ≤ maxLen)
    (hf0 : 0 ≤ form) (hf1 : form ≤ 255) (he0 : 0 < es) (he1 : es ≤ 4) (hb : l ≠ [] → ∃ g o, ao = some ⟨g, o, none⟩ ∧ BytesAt w g o l) :
    Calls Ybaf.prog 14 #[.slice ao l.length c, .int .u8 form, .int .i64 es, .nilFunc, .string snd] w fun e w' => StEnd w a0 (stRes form es l) e w' := by
  by_cases hn : l = []
  · have hr : stRes form es l = none := by unfold stRes; rw [if_pos hn]
    have hl0 : l.length = 0 := by rw [hn]; rfl
    have HB := hid_mk (bad_F0 F t0 0 a0 w hF hS.g0 hS.s0)
    rw [hr, hl0]
    go_enter Ybaf.func14, Ybaf.ntmps14
    go_wp2_with (go_at_call 27; refine HB.out.mono ?_; rintro e w2 ⟨v, rfl, hv⟩)
    (try simp only [Exit.inBlock, Exit.then])
    refine bodyPost_ret (results_tmp4 rfl _ _ _) rfl ?_
    exact ⟨0, 0, 0, _, rfl, .inl ⟨rfl, rfl, rfl, rfl, hv⟩⟩
  · obtain ⟨g, o, rfl, hB⟩ := hb hn
    have hlp : 0 < l.length := List.length_pos_iff.2 hn
    have c0 := hB 0 hlp
    rw [Nat.add_zero] at c0
    obtain ⟨y, hy⟩ : ∃ y : Nat, Hid (y = (l[0]).toNat) := ⟨_, hid_mk rfl⟩
    rw [← hy.out] at c0
    have hy1 : y ≤ 255 := by rw [hy.out]; have := (l[0]).toNat_lt; omega
    have hgd : (l.getD 0 0).toNat = y := by rw [hy.out]; simp [List.getD, List.getElem?_eq_getElem hlp]
    by_cases hf : (y : Int) = form
    · have hl0 : ¬ ((l.length : Int) = 0) := by omega
      have hU1 := uv_walk F a0 a3 a4 a5 t0 t3 t4 t5 g o c 1 numS l w hF hS hl hc hcm (by omega) hB
      have hE1 := fun h => end_le (l := l) (off := 1) h (by omega)
      have hV1 := val_lt l 1
      have hr0 : stRes form es l = if rdErr (l.drop 1) ≠ 0 then none
          else if (l.length - endOf l 1) / es < valOf l 1 then none else if rdErr (l.drop (endOf l 1)) ≠ 0 then none
          else if valOf l 1 ≤ valOf l (endOf l 1) then none else some (valOf l 1, valOf l (endOf l 1), endOf l (endOf l 1)) := by
        unfold stRes; rw [if_neg hn, if_neg (by rw [hgd]; simpa using hf)]
      obtain ⟨r, hr⟩ : ∃ r, Hid (r = stRes form es l) := ⟨_, hid_mk rfl⟩
      rw [← hr.out]
      have HR0 := hid_mk (hr.out.trans hr0)
      have HU1 := hid_mk hU1
      have HB := hid_mk hB
      have HE1 := hid_mk hE1
      clear hU1 hr0 hB hE1 hb
      subst hf
      go_enter Ybaf.func14, Ybaf.ntmps14
      go_wp2_with fail
      refine HU1.out.mono ?_
      rintro e w1 ⟨v1, p1, ev1, rfl, hu1⟩
      rcases hu1 with ⟨k1, rfl, rfl, rfl, bel1⟩ | ⟨k1, hbad⟩
      · obtain ⟨q1, q2, q3⟩ := HE1.out k1
        obtain ⟨O1, hO1⟩ : ∃ O, Hid (O = endOf l 1) := ⟨_, hid_mk rfl⟩
        obtain ⟨V1, hV⟩ : ∃ V, Hid (V = valOf l 1) := ⟨_, hid_mk rfl⟩
        rw [← hO1.out] at q1 q2 q3
        rw [← hV.out] at hV1
        have HR1 : Hid (r = if (l.length - O1) / es < V1 then none else if rdErr (l.drop O1) ≠ 0 then none
          else if V1 ≤ valOf l O1 then none else some (V1, valOf l O1, endOf l O1)) := by
          rw [hO1.out, hV.out, HR0.out, if_neg (by simpa using k1)]; exact hid_mk rfl
        rw [q3, show (Lib.uvarintDec (l.drop 1)).1 = V1 from hV.out.symm]
        have hs1 := bel1.size
        have hS1 := hS.mono bel1.block
        have hB1 := HB.out.mono bel1.block
        have hF1 : F.answers w1.tape := by rw [bel1.tape]; exact hF
        have hnf := neq_nilFunc
        clear q3 HU1 HE1 HR0 HB
        obtain ⟨Q, hQ⟩ : ∃ Q, Hid (Q = (l.length - O1) / es) := ⟨_, hid_mk rfl⟩
        have hwr : IntKind.u64.wrap (((l.length : Int) - (O1 : Int)) / (es : Int)) = (Q : Int) := by
          have h1 : ((l.length : Int) - (O1 : Int)) / (es : Int) = ((Q : Nat) : Int) := by
            rw [hQ.out, Int.natCast_ediv, Int.natCast_sub q2]
          have h2 : Q ≤ l.length := by rw [hQ.out]; exact Nat.le_trans (Nat.div_le_self _ _) (by omega)
          rw [h1]
          simp only [IntKind.wrap, IntKind.bits, IntKind.signed]
          simp
          omega
        rw [← hQ.out] at HR1
        by_cases hfit : Q < V1
        · have hrn : Hid (r = none) := by rw [HR1.out, if_pos hfit]; exact hid_mk rfl
          have hfit' : (Q : Int) < (V1 : Int) := by omega
          have H6 := hid_mk (fm_bad6 F a0 a3 a4 a5 t0 t3 t4 t5 1 (V1 : Int) w1 hF1 hS1 ((l.length : Int) - (O1 : Int)))
          go_wp2_with (go_at_call 27; refine H6.out.mono ?_; rintro e w2 ⟨v, rfl, hv⟩)
          (try simp only [Exit.inBlock, Exit.then])
          refine bodyPost_ret (results_tmp4 rfl _ _ _) rfl ?_
          exact ⟨0, 0, 0, _, rfl, .inl ⟨hrn.out, rfl, rfl, rfl, hv.from bel1⟩⟩
        · have hfit' : ¬ (Q : Int) < (V1 : Int) := by omega
          have HR2 : Hid (r = if rdErr (l.drop O1) ≠ 0 then none else if V1 ≤ valOf l O1 then none else some (V1, valOf l O1, endOf l O1)) := by rw [HR1.out, if_neg hfit]; exact hid_mk rfl
          have hU2 := uv_walk F a0 a3 a4 a5 t0 t3 t4 t5 g o c O1 snd l w1 hF1 hS1 hl hc hcm q2 hB1
          have hE2 := fun h => end_le (l := l) (off := O1) h q2
          have hV2 := val_lt l O1
          have HU2 := hid_mk hU2
          have HE2 := hid_mk hE2
          clear hU2 hE2 HR1 hB1
          go_wp2_with fail
          refine HU2.out.mono ?_
          rintro e w2 ⟨v2, p2, ev2, rfl, hu2⟩
          rcases hu2 with ⟨k2, rfl, rfl, rfl, bel2⟩ | ⟨k2, hbad⟩
          · obtain ⟨q4, q5, q6⟩ := HE2.out k2
            obtain ⟨O2, hO2⟩ : ∃ O, Hid (O = endOf l O1) := ⟨_, hid_mk rfl⟩
            obtain ⟨V2, hVV⟩ : ∃ V, Hid (V = valOf l O1) := ⟨_, hid_mk rfl⟩
            rw [← hO2.out] at q4 q5 q6
            rw [← hVV.out] at hV2
            rw [q6, show (Lib.uvarintDec (l.drop O1)).1 = V2 from hVV.out.symm]
            have HR3 : Hid (r = if V1 ≤ V2 then none else some (V1, V2, O2)) := by rw [HR2.out, if_neg (by simpa using k2), hO2.out, hVV.out]; exact hid_mk rfl
            have hS2 := hS1.mono bel2.block
            have hF2 : F.answers w2.tape := by rw [bel2.tape]; exact hF1
            have bel12 : Below w.heap.size w w2 := bel1.trans (bel2.mono hs1)
            clear q6 HU2 HE2 HR2
            by_cases hlt : V1 ≤ V2
            · have hrn : Hid (r = none) := by rw [HR3.out, if_pos hlt]; exact hid_mk rfl
              have hlt' : (V1 : Int) ≤ (V2 : Int) := by omega
              have H7 := hid_mk (fm_bad7 F a0 a3 a4 a5 t0 t3 t4 t5 (O1 : Int) (V2 : Int) w2 hF2 hS2 snd (V1 : Int))
              go_wp2_with (go_at_call 27; refine H7.out.mono ?_; rintro e w3 ⟨v, rfl, hv⟩)
              (try simp only [Exit.inBlock, Exit.then])
              refine bodyPost_ret (results_tmp4 rfl _ _ _) rfl ?_
              exact ⟨0, 0, 0, _, rfl, .inl ⟨hrn.out, rfl, rfl, rfl, hv.from bel12⟩⟩
            · have hrn : Hid (r = some (V1, V2, O2)) := by rw [HR3.out, if_neg hlt]; exact hid_mk rfl
              have hlt' : ¬ (V1 : Int) ≤ (V2 : Int) := by omega
              go_wp2
              (try simp only [Exit.inBlock, Exit.then])
              refine bodyPost_ret (results_tmp4 rfl _ _ _) rfl ?_
              exact ⟨_, _, _, _, rfl, .inr ⟨V1, V2, O2, hrn.out, rfl, rfl, rfl, rfl, bel12⟩⟩
          · obtain ⟨pb, rfl, hpb⟩ := hbad.from bel1
            have hrn : Hid (r = none) := by rw [HR2.out, if_pos k2]; exact hid_mk rfl
            have Hpb := hid_mk hpb
            clear hpb hbad
            go_wp2
            (try simp only [Exit.inBlock, Exit.then])
            refine bodyPost_ret (results_tmp4 rfl _ _ _) rfl ?_
            exact ⟨0, 0, 0, _, rfl, .inl ⟨hrn.out, rfl, rfl, rfl, pb, rfl, Hpb.out⟩⟩
      · obtain ⟨pb, rfl, hpb⟩ := hbad
        have hrn : Hid (r = none) := by rw [HR0.out, if_pos k1]; exact hid_mk rfl
        have Hpb := hid_mk hpb
        clear hpb
        go_wp2
        (try simp only [Exit.inBlock, Exit.then])
        refine bodyPost_ret (results_tmp4 rfl _ _ _) rfl ?_
        exact ⟨0, 0, 0, _, rfl, .inl ⟨hrn.out, rfl, rfl, rfl, pb, rfl, Hpb.out⟩⟩
    · have hr : stRes form es l = none := by unfold stRes; rw [if_neg hn, if_pos (by rw [hgd]; exact hf)]
      have HB := hid_mk (form_walk F a0 a3 a4 a5 t0 t3 t4 t5 (y : Int) w hF hS (by omega) (by omega))
      have hl0 : ¬ ((l.length : Int) = 0) := by omega
      rw [hr]
      go_enter Ybaf.func14, Ybaf.ntmps14
      go_wp2_with (go_at_call 28; refine HB.out.mono ?_; rintro e w2 ⟨v, rfl, hv⟩)
      (try simp only [Exit.inBlock, Exit.then])
      refine bodyPost_ret (results_tmp4 rfl _ _ _) rfl ?_
      exact ⟨0, 0, 0, _, rfl, .inl ⟨rfl, rfl, rfl, rfl, hv⟩⟩
end Go.Proofs.YbulkbzsuFmt

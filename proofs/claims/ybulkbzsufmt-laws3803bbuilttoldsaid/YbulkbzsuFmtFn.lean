import Derived.Test.YbulkbzsuFmtLim
namespace Go.Proofs.YbulkbzsuFmt
open Go.RowKit Go.Extern.Stop Go.Stop Go.Extern
set_option linter.unusedVariables false
set_option linter.unusedSimpArgs false

theorem only_cell {w : World} {cb : Nat} (h : w.heap[cb]? = some (.cells #[.slice none 0 0] 37 (0, 0))) {a : Addr} {v : Value} (hv : w.cell? a = some v) (ha : a.block = cb) : v = .slice none 0 0 := by
  obtain ⟨b, off, spot⟩ := a
  have hs := World.cell?_spot hv
  simp only at hs ha
  subst hs ha
  rw [cell_of_row w _ _ _ _ _ h] at hv
  match off, hv with
  | 0, hv => simpa using hv.symm
  | n + 1, hv => simp at hv

theorem Sent.but {a0 a3 a4 a5 : Addr} {t0 t3 t4 t5 : ByteArray} {w w' : World} {cb : Nat} (h : Sent a0 a3 a4 a5 t0 t3 t4 t5 w) (hcb : w.heap[cb]? = some (.cells #[.slice none 0 0] 37 (0, 0))) (hb : ∀ b, b < w.heap.size → b ≠ cb → w'.heap[b]? = w.heap[b]?) : Sent a0 a3 a4 a5 t0 t3 t4 t5 w' := by
  have k : ∀ a v, w.cell? a = some v → v ≠ .slice none 0 0 → w'.cell? a = some v := fun a v hv hne => (World.cell?_of_block (w := w) (a := a) (hb _ (World.block_lt_of_cell? w _ hv) (fun e => hne (only_cell hcb hv e)))).trans hv
  exact ⟨k _ _ h.g0 (by simp), k _ _ h.g3 (by simp), k _ _ h.g4 (by simp), k _ _ h.g5 (by simp), k _ _ h.s0 (by simp), k _ _ h.s3 (by simp), k _ _ h.s4 (by simp), k _ _ h.s5 (by simp)⟩

theorem BytesAt.but {w w' : World} {cb g o : Nat} {l : List UInt8} (h : BytesAt w g o l) (hb : ∀ b, b < w.heap.size → b ≠ cb → w'.heap[b]? = w.heap[b]?) (hg : g ≠ cb) : BytesAt w' g o l := fun j hj => by
  have h1 := h j hj
  exact (World.cell?_of_block (w := w) (a := ⟨g, o + j, none⟩) (hb _ (World.block_lt_of_cell? w _ h1) hg)).trans h1

abbrev limF (cb lb rb : Nat) : Value := .func (.func 13) #[] #[.pointer (some ⟨cb, 0, none⟩), .pointer (some ⟨lb, 0, none⟩), .pointer (some ⟨rb, 0, none⟩)]
theorem neq_limF (cb lb rb : Nat) (w : World) : (binOp BinOp.neq 38 (limF cb lb rb) Value.nilFunc).run Ybaf.prog w = .ok (.bool true) w := by kernel_rfl

def FnEnd (w : World) (a0 : Addr) (form : Int) (es : Nat) (l : List UInt8) (cb lim : Nat) (r : Addr) (e : Ending) (w' : World) : Prop :=
  ∃ n p o ev, e = .returned (.tuple #[.int .u64 n, .int .u64 p, .int .i64 o, ev]) ∧
    ((((l.getD 0 0).toNat : Int) ≠ form ∧ n = 0 ∧ p = 0 ∧ o = 0 ∧ Bad w a0 ev w') ∨
     (((l.getD 0 0).toNat : Int) = form ∧ ∃ wm, Noted w wm cb (valOf l 1) ∧
       ((lim < valOf l 1 ∧ n = 0 ∧ p = 0 ∧ o = 0 ∧ ev = .iface 61 (.pointer (some r)) ∧ w' = wm) ∨
        (¬ lim < valOf l 1 ∧ ((stRes form es l = none ∧ n = 0 ∧ p = 0 ∧ o = 0 ∧ Bad wm a0 ev w') ∨ (∃ n' p' o' : Nat, stRes form es l = some (n', p', o') ∧ n = n' ∧ p = p' ∧ o = o' ∧ ev = .nilIface ∧ Below wm.heap.size wm w'))))))

set_option maxRecDepth 100000 in
set_option maxHeartbeats 1000000 in
theorem start_fn (F : Interp) (a0 a3 a4 a5 : Addr) (t0 t3 t4 t5 : ByteArray) (g o c : Nat) (form : Int) (es : Nat) (snd : ByteArray) (l : List UInt8) (cb lb rb lim : Nat) (ra : Addr) (w : World) (hF : F.answers w.tape) (hS : Sent a0 a3 a4 a5 t0 t3 t4 t5 w) (hl : l.length ≤ 100000) (hc : l.length ≤ c) (hcm : c ≤ maxLen)
    (hf0 : 0 ≤ form) (hf1 : form ≤ 255) (he0 : 0 < es) (he1 : es ≤ 4) (hn : l ≠ []) (hB : BytesAt w g o l) (hgc : g ≠ cb) (hk1 : rdErr (l.drop 1) = 0)
    (hcb : w.heap[cb]? = some (.cells #[.slice none 0 0] 37 (0, 0))) (hlm : w.cell? ⟨lb, 0, none⟩ = some (.int .u64 lim)) (hrf : w.cell? ⟨rb, 0, none⟩ = some (.iface 61 (.pointer (some ra)))) :
    Calls Ybaf.prog 14 #[.slice (some ⟨g, o, none⟩) l.length c, .int .u8 form, .int .i64 es, limF cb lb rb, .string snd] w fun e w' => FnEnd w a0 form es l cb lim ra e w' := by
  have hlp : 0 < l.length := List.length_pos_iff.2 hn
  have c0 := hB 0 hlp
  rw [Nat.add_zero] at c0
  obtain ⟨y, hy⟩ : ∃ y : Nat, Hid (y = (l[0]).toNat) := ⟨_, hid_mk rfl⟩
  rw [← hy.out] at c0
  have hy1 : y ≤ 255 := by rw [hy.out]; have := (l[0]).toNat_lt; omega
  have hgd : Hid ((l.getD 0 0).toNat = y) := hid_mk (by rw [hy.out]; simp [List.getD, List.getElem?_eq_getElem hlp])
  have hlc : lb ≠ cb := fun e => by have := only_cell hcb hlm e; cases this
  have hrc : rb ≠ cb := fun e => by have := only_cell hcb hrf e; cases this
  have hl0 : ¬ ((l.length : Int) = 0) := by omega
  by_cases hf : (y : Int) = form
  · have hU1 := uv_walk F a0 a3 a4 a5 t0 t3 t4 t5 g o c 1 numS l w hF hS hl hc hcm (by omega) hB
    obtain ⟨q1, q2, q3⟩ := end_le (l := l) (off := 1) hk1 (by omega)
    have hV1 := val_lt l 1
    have hr0 : stRes form es l = if (l.length - endOf l 1) / es < valOf l 1 then none else if rdErr (l.drop (endOf l 1)) ≠ 0 then none
          else if valOf l 1 ≤ valOf l (endOf l 1) then none else some (valOf l 1, valOf l (endOf l 1), endOf l (endOf l 1)) := by
      unfold stRes; rw [if_neg hn, if_neg (by rw [hgd.out]; simpa using hf), if_neg (by simpa using hk1)]
    obtain ⟨O1, hO1⟩ : ∃ O, Hid (O = endOf l 1) := ⟨_, hid_mk rfl⟩
    obtain ⟨V1, hV⟩ : ∃ V, Hid (V = valOf l 1) := ⟨_, hid_mk rfl⟩
    rw [← hO1.out] at q1 q2 q3 hr0
    rw [← hV.out] at hV1 hr0
    have HR1 := hid_mk hr0
    have HU1 := hid_mk hU1
    have HFY := hid_mk hf
    clear hU1 hr0
    subst hf
    have hnf := neq_limF cb lb rb
    go_enter Ybaf.func14, Ybaf.ntmps14
    go_wp2_with fail
    refine HU1.out.mono ?_
    rintro e w1 ⟨v1, p1, ev1, rfl, hu1⟩
    rcases hu1 with ⟨k1, rfl, rfl, rfl, bel1⟩ | ⟨k1, hbad⟩
    · rw [q3, show (Lib.uvarintDec (l.drop 1)).1 = V1 from hV.out.symm]
      have hs1 := bel1.size
      have hS1 := hS.mono bel1.block
      have hB1 := hB.mono bel1.block
      have hF1 : F.answers w1.tape := by rw [bel1.tape]; exact hF
      have up : ∀ {a : Addr} {v : Value}, w.cell? a = some v → w1.cell? a = some v := fun {a v} h => (World.cell?_of_block (w := w) (a := a) (bel1.block _ (World.block_lt_of_cell? w _ h))).trans h
      have hcl : cb < w.heap.size := (Array.getElem?_eq_some_iff.1 hcb).1
      have hcb1 := (bel1.block cb hcl).trans hcb
      have HL := hid_mk (lim_walk V1 lim cb lb rb ra w1 hcb1 (up hlm) (up hrf) hlc hrc)
      clear q3 HU1
      go_wp2_with fail
      refine HL.out.mono ?_
      rintro e wm ⟨rfl, hno⟩
      have hsm := hno.grown.size
      have hb1m : ∀ b, b < w1.heap.size → b ≠ cb → wm.heap[b]? = w1.heap[b]? := fun b hb hne => hno.grown.block b hb (by simpa using hne)
      have hSm := hS1.but hcb1 hb1m
      have hBm := hB1.but hb1m hgc
      have hFm : F.answers wm.tape := by rw [hno.grown.tape]; exact hF1
      have hNw : Noted w wm cb V1 := by
        obtain ⟨hg, gg, cc, n1, n2, n3⟩ := hno
        exact ⟨⟨hg.os.trans bel1.os, hg.tape.trans bel1.tape, hg.output.trans bel1.output, by omega, fun b hb hne => (hg.block b (by omega) hne).trans (bel1.block b hb)⟩, gg, cc, n1, n2, by omega⟩
      have HNW := hid_mk hNw
      clear HL hno hNw
      by_cases hlim : lim < V1
      · rw [if_pos hlim]
        go_wp2
        (try simp only [Exit.inBlock, Exit.then])
        refine bodyPost_ret (results_tmp4 rfl _ _ _) rfl ?_
        exact ⟨0, 0, 0, _, rfl, .inr ⟨by rw [hgd.out], wm, by rw [← hV.out]; exact HNW.out, .inl ⟨by rw [← hV.out]; exact hlim, rfl, rfl, rfl, rfl, rfl⟩⟩⟩
      · rw [if_neg hlim]
        obtain ⟨r, hr⟩ : ∃ r, Hid (r = stRes (y : Int) es l) := ⟨_, hid_mk rfl⟩
        have fin : ∀ (n p o : Int) (ev : Value) (w' : World), ((r = none ∧ n = 0 ∧ p = 0 ∧ o = 0 ∧ Bad wm a0 ev w') ∨ (∃ n' p' o' : Nat, r = some (n', p', o') ∧ n = n' ∧ p = p' ∧ o = o' ∧ ev = .nilIface ∧ Below wm.heap.size wm w')) →
            FnEnd w a0 (y : Int) es l cb lim ra (.returned (.tuple #[.int .u64 n, .int .u64 p, .int .i64 o, ev])) w' := fun n p o ev w' h =>
          ⟨n, p, o, ev, rfl, .inr ⟨by rw [hgd.out], wm, by rw [← hV.out]; exact HNW.out, .inr ⟨by rw [← hV.out]; exact hlim, by rw [← hr.out]; exact h⟩⟩⟩
        have HFin := hid_mk fin
        have HR1' := hid_mk (hr.out.trans HR1.out)
        clear fin HR1 HNW
        obtain ⟨Q, hQ⟩ : ∃ Q, Hid (Q = (l.length - O1) / es) := ⟨_, hid_mk rfl⟩
        have hwr : IntKind.u64.wrap (((l.length : Int) - (O1 : Int)) / (es : Int)) = (Q : Int) := by
          have h1 : ((l.length : Int) - (O1 : Int)) / (es : Int) = ((Q : Nat) : Int) := by
            rw [hQ.out, Int.natCast_ediv, Int.natCast_sub q2]
          have h2 : Q ≤ l.length := by rw [hQ.out]; exact Nat.le_trans (Nat.div_le_self _ _) (by omega)
          rw [h1]
          simp only [IntKind.wrap, IntKind.bits, IntKind.signed]
          simp
          omega
        rw [← hQ.out] at HR1'
        by_cases hfit : Q < V1
        · have hrn : Hid (r = none) := by rw [HR1'.out, if_pos hfit]; exact hid_mk rfl
          have hfit' : (Q : Int) < (V1 : Int) := by omega
          have H6 := hid_mk (fm_bad6 F a0 a3 a4 a5 t0 t3 t4 t5 1 (V1 : Int) wm hFm hSm ((l.length : Int) - (O1 : Int)))
          go_wp2_with (go_at_call 27; refine H6.out.mono ?_; rintro e w2 ⟨v, rfl, hv⟩)
          (try simp only [Exit.inBlock, Exit.then])
          refine bodyPost_ret (results_tmp4 rfl _ _ _) rfl ?_
          exact HFin.out 0 0 0 _ _ (.inl ⟨hrn.out, rfl, rfl, rfl, hv⟩)
        · have hfit' : ¬ (Q : Int) < (V1 : Int) := by omega
          have HR2 : Hid (r = if rdErr (l.drop O1) ≠ 0 then none else if V1 ≤ valOf l O1 then none else some (V1, valOf l O1, endOf l O1)) := by rw [HR1'.out, if_neg hfit]; exact hid_mk rfl
          have hU2 := uv_walk F a0 a3 a4 a5 t0 t3 t4 t5 g o c O1 snd l wm hFm hSm hl hc hcm q2 hBm
          have hE2 := fun h => end_le (l := l) (off := O1) h q2
          have hV2 := val_lt l O1
          have HU2 := hid_mk hU2
          have HE2 := hid_mk hE2
          clear hU2 hE2 HR1'
          go_wp2_with fail
          refine HU2.out.mono ?_
          rintro e w2 ⟨v2, p2, ev2, rfl, hu2⟩
          rcases hu2 with ⟨k2, rfl, rfl, rfl, bel2⟩ | ⟨k2, hbad⟩
          · obtain ⟨q4, q5, q6⟩ := HE2.out k2
            obtain ⟨O2, hO2⟩ : ∃ O, Hid (O = endOf l O1) := ⟨_, hid_mk rfl⟩
            obtain ⟨V2, hVV⟩ : ∃ V, Hid (V = valOf l O1) := ⟨_, hid_mk rfl⟩
            rw [← hO2.out] at q4 q5 q6
            rw [← hVV.out] at hV2
            rw [q6, show (Lib.uvarintDec (l.drop O1)).1 = V2 from hVV.out.symm]
            have HR3 : Hid (r = if V1 ≤ V2 then none else some (V1, V2, O2)) := by rw [HR2.out, if_neg (by simpa using k2), hO2.out, hVV.out]; exact hid_mk rfl
            have hS2 := hSm.mono bel2.block
            have hF2 : F.answers w2.tape := by rw [bel2.tape]; exact hFm
            clear q6 HU2 HE2 HR2
            by_cases hlt : V1 ≤ V2
            · have hrn : Hid (r = none) := by rw [HR3.out, if_pos hlt]; exact hid_mk rfl
              have hlt' : (V1 : Int) ≤ (V2 : Int) := by omega
              have H7 := hid_mk (fm_bad7 F a0 a3 a4 a5 t0 t3 t4 t5 (O1 : Int) (V2 : Int) w2 hF2 hS2 snd (V1 : Int))
              go_wp2_with (go_at_call 27; refine H7.out.mono ?_; rintro e w3 ⟨v, rfl, hv⟩)
              (try simp only [Exit.inBlock, Exit.then])
              refine bodyPost_ret (results_tmp4 rfl _ _ _) rfl ?_
              exact HFin.out 0 0 0 _ _ (.inl ⟨hrn.out, rfl, rfl, rfl, hv.from bel2⟩)
            · have hrn : Hid (r = some (V1, V2, O2)) := by rw [HR3.out, if_neg hlt]; exact hid_mk rfl
              have hlt' : ¬ (V1 : Int) ≤ (V2 : Int) := by omega
              go_wp2
              (try simp only [Exit.inBlock, Exit.then])
              refine bodyPost_ret (results_tmp4 rfl _ _ _) rfl ?_
              exact HFin.out _ _ _ _ _ (.inr ⟨V1, V2, O2, hrn.out, rfl, rfl, rfl, rfl, bel2⟩)
          · obtain ⟨pb, rfl, hpb⟩ := hbad
            have hrn : Hid (r = none) := by rw [HR2.out, if_pos k2]; exact hid_mk rfl
            have Hpb := hid_mk hpb
            clear hpb
            go_wp2
            (try simp only [Exit.inBlock, Exit.then])
            refine bodyPost_ret (results_tmp4 rfl _ _ _) rfl ?_
            exact HFin.out 0 0 0 _ _ (.inl ⟨hrn.out, rfl, rfl, rfl, pb, rfl, Hpb.out⟩)
    · exact absurd hk1 k1
  · have HB := hid_mk (form_walk F a0 a3 a4 a5 t0 t3 t4 t5 (y : Int) w hF hS (by omega) (by omega))
    go_enter Ybaf.func14, Ybaf.ntmps14
    go_wp2_with (go_at_call 28; refine HB.out.mono ?_; rintro e w2 ⟨v, rfl, hv⟩)
    (try simp only [Exit.inBlock, Exit.then])
    refine bodyPost_ret (results_tmp4 rfl _ _ _) rfl ?_
    exact ⟨0, 0, 0, _, rfl, .inl ⟨by rw [hgd.out]; exact hf, rfl, rfl, rfl, hv⟩⟩
end Go.Proofs.YbulkbzsuFmt

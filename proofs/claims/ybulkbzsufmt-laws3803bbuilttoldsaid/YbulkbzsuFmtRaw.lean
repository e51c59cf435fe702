import Derived.Test.YbulkbzsuFmtClone
namespace Go.Proofs.YbulkbzsuFmt
open Go.RowKit Go.Extern.Stop Go.Stop Go.Extern
set_option linter.unusedVariables false
set_option linter.unusedSimpArgs false

theorem rd_canon {l : List UInt8} (h : rdErr l = 0) : l.take (Lib.uvarintDec l).2.toNat = Lib.uvarint (Lib.uvarintDec l).1 ∧ (Lib.uvarint (Lib.uvarintDec l).1).length = (Lib.uvarintDec l).2.toNat := by
  have hp := rd_pos h
  obtain ⟨u, m, h1, h2, h3, h4, h5⟩ := dec_canon l 0 0 hp.1
  have h3' : (Lib.uvarintDec l).2 = ((0 + m : Nat) : Int) := h3
  have h4' : (Lib.uvarintDec l).1 = 0 + u * 2 ^ (7 * 0) := h4
  have hm : (Lib.uvarintDec l).2.toNat = m := by omega
  have hu : (Lib.uvarintDec l).1 = u := by rw [h4']; simp
  rcases h5 with ⟨h5, _⟩ | ⟨h5, h6⟩
  · rw [hm, hu]
    refine ⟨h5, ?_⟩
    rw [← h5, List.length_take]; omega
  · exfalso
    unfold rdErr at h
    rw [if_neg (by omega), if_neg (by omega), if_pos] at h
    · cases h
    · exact ⟨by omega, by rw [hm]; exact h6⟩

theorem val_canon {l : List UInt8} {off : Nat} (h : rdErr (l.drop off) = 0) (ho : off ≤ l.length) : l.take (endOf l off) = l.take off ++ Lib.uvarint (valOf l off) ∧ endOf l off = off + (Lib.uvarint (valOf l off)).length := by
  obtain ⟨h1, h2⟩ := rd_canon h
  unfold endOf valOf
  rw [h2, List.take_add, h1]
  exact ⟨rfl, rfl⟩

theorem st_some {form : Int} {es : Nat} {l : List UInt8} {n p o : Nat} (h : stRes form es l = some (n, p, o)) :
    l.take o = (l.take 1 ++ Lib.uvarint n) ++ Lib.uvarint p ∧ o = 1 + (Lib.uvarint n).length + (Lib.uvarint p).length ∧ o ≤ l.length ∧ p < n ∧ n ≤ (l.length - (1 + (Lib.uvarint n).length)) / es ∧ n < 18446744073709551616 ∧ p < 18446744073709551616 ∧ l ≠ [] ∧ ((l.getD 0 0).toNat : Int) = form := by
  unfold stRes at h
  split at h
  · cases h
  · rename_i h0
    split at h
    · cases h
    · rename_i h1
      split at h
      · cases h
      · rename_i h2
        split at h
        · cases h
        · rename_i h3
          split at h
          · cases h
          · rename_i h4
            split at h
            · cases h
            · rename_i h5
              simp only [Option.some.injEq, Prod.mk.injEq] at h
              obtain ⟨rfl, rfl, rfl⟩ := h
              have hl : 0 < l.length := List.length_pos_iff.2 h0
              have k1 := end_le (l := l) (off := 1) (by simpa using h2) (by omega)
              have c1 := val_canon (l := l) (off := 1) (by simpa using h2) (by omega)
              have k2 := end_le (l := l) (off := endOf l 1) (by simpa using h4) (by omega)
              have c2 := val_canon (l := l) (off := endOf l 1) (by simpa using h4) (by omega)
              refine ⟨by rw [c2.1, c1.1], by rw [c2.2, ← c1.2], k2.2.1, by omega, ?_, val_lt _ _, val_lt _ _, h0, by simpa using h1⟩
              rw [← c1.2]
              omega

theorem shape_of {w : World} {B : Nat} {v : Value} {n : Nat} {xs : List Value} (h : w.ownsRow B 5 1 v n xs) : ∃ a c, v = .slice a n c ∧ n ≤ c ∧ c ≤ maxLen ∧ (0 < n → ∃ g, a = some ⟨g, 0, none⟩ ∧ B ≤ g ∧ g < w.heap.size) := by
  rcases h.2 with ⟨rfl, rfl⟩ | ⟨g, cap, cur, rfl, hb, hh, h1, h2, _⟩
  · exact ⟨_, _, rfl, by omega, by simp [maxLen], fun h => by omega⟩
  · exact ⟨_, _, rfl, h1, h2, fun _ => ⟨g, rfl, hb, (Array.getElem?_eq_some_iff.1 hh).1⟩⟩

theorem own_at {w : World} {B g c : Nat} {l : List UInt8} (h : w.ownsRow B 5 1 (.slice (some ⟨g, 0, none⟩) l.length c) l.length (Lib.byteCells l)) : BytesAt w g 0 l := fun j hj => by
  rw [Nat.zero_add, h.cellAt j (by omega)]
  simp [Lib.byteCells, List.getElem?_eq_getElem hj]

theorem own_keep {w w' : World} {B : Nat} {v : Value} {n : Nat} {xs : List Value} (h : w.ownsRow B 5 1 v n xs) (hb : ∀ b, b < w.heap.size → w'.heap[b]? = w.heap[b]?) : w'.ownsRow B 5 1 v n xs := by
  obtain ⟨h1, h2⟩ := h
  refine ⟨h1, ?_⟩
  rcases h2 with h2 | ⟨g, cap, cur, rfl, b, c, d⟩
  · exact .inl h2
  · exact .inr ⟨g, cap, cur, rfl, b, (hb g (Array.getElem?_eq_some_iff.1 c).1).trans c, d⟩

/-- The first o bytes. -/
theorem take_in {w : World} {B g c o : Nat} {l : List UInt8} (h : w.ownsRow B 5 1 (.slice (some ⟨g, 0, none⟩) l.length c) l.length (Lib.byteCells l)) (ho : o ≤ l.length) : BytesIn w (.slice (some ⟨g, 0, none⟩) o c) (l.take o) := by
  refine ⟨_, c, by rw [List.length_take, Nat.min_eq_left ho], (fun h => by cases h), fun x hx j u hu => ?_⟩
  cases hx
  have hu' : (Lib.byteCells l)[j]? = some u := by
    have : Lib.byteCells (l.take o) = (Lib.byteCells l).take o := by simp [Lib.byteCells, List.map_take]
    rw [this, List.getElem?_take] at hu
    split at hu
    · exact hu
    · cases hu
  exact h.cells (g := g) rfl j u hu'

set_option maxRecDepth 100000 in
set_option maxHeartbeats 1000000 in
theorem raw_walk (F : Interp) (a0 a3 a4 a5 : Addr) (t0 t3 t4 t5 : ByteArray) (bv : Value) (l : List UInt8) (form es : Int) (w : World) (hF : F.answers w.tape) (hS : Sent a0 a3 a4 a5 t0 t3 t4 t5 w) (hb : BytesIn w bv l) (hf0 : 0 ≤ form) (hf1 : form ≤ 255) (he0 : 0 ≤ es) (he1 : es ≤ 255) :
    Calls Ybaf.prog 6 #[bv, .int .u8 form, .int .u8 es] w fun e w' => e = .returned (.bool true) ∧ Below w.heap.size w w' := by
  have hbv := hb
  obtain ⟨a, c, rfl, _, _⟩ := hb
  by_cases hl : l.length ≤ 1024
  · have q1 : ¬ (1024 : Int) < l.length := by omega
    obtain ⟨E, hE⟩ : ∃ E : Nat, (es % 4 + 1 : Int) = (E : Int) := ⟨(es % 4 + 1).toNat, by omega⟩
    have hE0 : 0 < E := by omega
    have hE1 : E ≤ 4 := by omega
    have HC := hid_mk (clone_walk (.slice a l.length c) l w hbv (by omega))
    go_enter Ybaf.func6, Ybaf.ntmps6
    go_wp2_with fail
    refine HC.out.mono ?_
    rintro e w1 ⟨v1, rfl, ho1, hg1⟩
    obtain ⟨a1, c1, rfl, hc1, hc2, hsh⟩ := shape_of ho1
    have hw1 : ∀ b, b < w.heap.size → w1.heap[b]? = w.heap[b]? := fun b hb => hg1.block b hb (by simp)
    have hs1 := hg1.size
    have bel1 : Below w.heap.size w w1 := (Below.refl _ _).grown hg1 (Nat.le_refl _) (fun k hk => by cases hk)
    have hF1 : F.answers w1.tape := by rw [bel1.tape]; exact hF
    have hSt := start_nil F a0 a3 a4 a5 t0 t3 t4 t5 a1 c1 form E { data := #[115] } l w1 hF1 (hS.mono hw1) (by omega) hc1 hc2 hf0 hf1 hE0 hE1 (fun hn => by
      obtain ⟨g, rfl, _⟩ := hsh (List.length_pos_iff.2 hn)
      exact ⟨g, 0, rfl, own_at ho1⟩)
    have HSt := hid_mk hSt
    clear hSt HC
    go_wp2_with fail
    refine HSt.out.mono ?_
    rintro e w2 ⟨n, p, o, ev, rfl, hend⟩
    have hbw1 := hbv.mono hw1
    clear HSt hbv
    rcases hend with ⟨hr, rfl, rfl, rfl, pb, rfl, hp1, hp2, hpc, bel2⟩ | ⟨n, p, o, hr, rfl, rfl, rfl, rfl, bel2⟩
    · have hS2 := (hS.mono hw1).mono bel2.block
      have g0 := hS2.g0
      have HQ := hid_mk (beq_same (.slice a1 l.length c1) (.slice a l.length c) l w2 (ownsRow_bytesIn (own_keep ho1 bel2.block)) (hbw1.mono bel2.block))
      have HI := hid_mk (is_wrap_same pb 0 a0 w2 (by simpa using hpc))
      have belF : Below w.heap.size w w2 := bel1.trans (bel2.mono hs1)
      clear hr hpc
      go_wp2_with fail
      refine HQ.out.mono ?_
      rintro e w3 ⟨rfl, rfl⟩
      go_wp2_with fail
      refine HI.out.mono ?_
      rintro e w4 ⟨rfl, rfl⟩
      go_wp2
      go_ret
      exact ⟨rfl, belF⟩
    · obtain ⟨r1, r2, r3, r4, r5, r6, r7, r8, r9⟩ := st_some hr
      have hlp : 0 < l.length := List.length_pos_iff.2 r8
      obtain ⟨g, rfl, hg0, hg1'⟩ := hsh hlp
      have ho2 := own_keep ho1 bel2.block
      have HQ := hid_mk (beq_same (.slice (some ⟨g, 0, none⟩) l.length c1) (.slice a l.length c) l w2 (ownsRow_bytesIn ho2) (hbw1.mono bel2.block))
      have belF : Below w.heap.size w w2 := bel1.trans (bel2.mono hs1)
      have hs2 := bel2.size
      have hlt' : ¬ ((n : Int) ≤ (p : Int)) := by omega
      have HR1 := hid_mk r1
      have hl1 : l.take 1 = [l.getD 0 0] := by
        cases l with
        | nil => exact absurd rfl r8
        | cons x t => rfl
      obtain ⟨A, hA⟩ : ∃ A, Hid (A = (Lib.uvarint n).length) := ⟨_, hid_mk rfl⟩
      obtain ⟨C, hC⟩ : ∃ A, Hid (A = (Lib.uvarint p).length) := ⟨_, hid_mk rfl⟩
      have hA10 := Lib.uvarint_length64 r6
      have hC10 := Lib.uvarint_length64 r7
      rw [← hA.out] at hA10 r5 r2
      rw [← hC.out] at hC10 r2
      have HR2 := hid_mk r2
      have r2' : o ≤ 100 := by omega
      have hBc : (w2.alloc (.cells #[.int .u8 form] 5)).ownsRow w2.heap.size 5 1 (.slice (some ⟨w2.heap.size, 0, none⟩) 1 1) 1 [.int .u8 form] := World.ownsRow_lit w2 #[.int .u8 form] 1 (Nat.le_refl _) (by simp [maxLen]) rfl
      have HA1 := hid_mk (Ybaf.binary_AppendUvarint w2.heap.size 1 n r6 _ _ _ hBc (by simp) (by omega))
      clear r1 r2 hr hBc
      go_wp2_with fail
      refine HQ.out.mono ?_
      rintro e w3 ⟨rfl, rfl⟩
      go_wp2_with fail
      refine HA1.out.mono ?_
      rintro e w4 ⟨v4, rfl, ho4, bel4⟩
      rw [← hA.out] at ho4
      obtain ⟨D, hD⟩ : ∃ D, Hid (D = 1 + A) := ⟨_, hid_mk rfl⟩
      have hD11 : D ≤ 11 := by have := hD.out; omega
      rw [← hD.out] at ho4 r5
      obtain ⟨a4', c4, rfl, hc4, hc4', _⟩ := shape_of ho4
      have hs4 := bel4.size
      simp at hs4
      have HA2 := hid_mk (Ybaf.binary_AppendUvarint w3.heap.size D p r7 _ _ w4 ho4 (by omega) (by omega))
      have h34 : ∀ b, b < w3.heap.size → w4.heap[b]? = w3.heap[b]? := fun b hb => (bel4.block b hb).trans (Below.heap_alloc _ _ _ hb)
      clear HA1
      go_wp2_with fail
      refine HA2.out.mono ?_
      rintro e w5 ⟨v5, rfl, ho5, bel5⟩
      have hoD : o = D + C := by have := hD.out; have := HR2.out; omega
      have HOD := hid_mk hoD
      rw [← hC.out, ← hoD] at ho5
      clear hoD
      obtain ⟨a5', c5, rfl, hc5, hc5', _⟩ := shape_of ho5
      have h35 : ∀ b, b < w3.heap.size → w5.heap[b]? = w3.heap[b]? := fun b hb => (bel5.block b hb).trans (h34 b hb)
      have hin := take_in (own_keep ho2 h35) r3
      have henc : BytesIn w5 (.slice a5' o c5) (l.take o) := by
        rw [HR1.out, hl1]
        have e : Lib.byteCells (([l.getD 0 0] ++ Lib.uvarint n) ++ Lib.uvarint p) = [.int .u8 form] ++ Lib.byteCells (Lib.uvarint n) ++ Lib.byteCells (Lib.uvarint p) := by
          simp [Lib.byteCells]
          exact r9
        have el : (([l.getD 0 0] ++ Lib.uvarint n) ++ Lib.uvarint p).length = o := by rw [HR2.out]; simp only [List.length_append, List.length_cons, List.length_nil, ← hA.out, ← hC.out]
        have := ownsRow_bytesIn (l := ([l.getD 0 0] ++ Lib.uvarint n) ++ Lib.uvarint p) (w := w5) (v := .slice a5' o c5) (base := w3.heap.size) (by rw [el, e]; exact ho5)
        exact this
      have HQ2 := hid_mk (beq_same (.slice (some ⟨g, 0, none⟩) o c1) (.slice a5' o c5) (l.take o) w5 hin henc)
      have ho1' : ¬ ((l.length : Int) < (o : Int)) := by omega
      have hoc : o ≤ c1 := by omega
      have belZ : Below w.heap.size w w5 := belF.trans ⟨bel5.os.trans bel4.os, bel5.tape.trans bel4.tape, bel5.output.trans bel4.output, by have := bel5.size; omega, fun b hb => h35 b (by omega)⟩
      clear HA2 hin henc HR1
      obtain ⟨Q, hQ⟩ : ∃ Q, Hid (Q = (l.length - D) / E) := ⟨_, hid_mk rfl⟩
      have hDl : D ≤ l.length := by have := HOD.out; omega
      have hwr : IntKind.u64.wrap (((l.length : Int) - (D : Int)) / (E : Int)) = (Q : Int) := by
        have h1 : ((l.length : Int) - (D : Int)) / (E : Int) = ((Q : Nat) : Int) := by
          rw [hQ.out, Int.natCast_ediv, Int.natCast_sub hDl]
        have h2 : Q ≤ l.length := by rw [hQ.out]; exact Nat.le_trans (Nat.div_le_self _ _) (by omega)
        rw [h1]
        simp only [IntKind.wrap, IntKind.bits, IntKind.signed]
        simp
        omega
      have hfin : (n : Int) ≤ (Q : Int) := by rw [← hQ.out] at r5; omega
      go_wp2_with fail
      refine HQ2.out.mono ?_
      rintro e w6 ⟨rfl, rfl⟩
      go_wp2
      go_ret
      exact ⟨rfl, belZ⟩
  · have q1 : (1024 : Int) < l.length := by omega
    go_enter Ybaf.func6, Ybaf.ntmps6
    go_wp2
    go_ret
    exact ⟨rfl, Below.refl _ _⟩
end Go.Proofs.YbulkbzsuFmt

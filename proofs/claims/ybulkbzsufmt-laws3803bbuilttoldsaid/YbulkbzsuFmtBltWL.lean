import Derived.Test.YbulkbzsuFmtBltA
namespace Go.Proofs.YbulkbzsuFmt
open Go.RowKit Go.Extern.Stop Go.Stop Go.Extern
set_option linter.unusedVariables false
set_option linter.unusedSimpArgs false

set_option maxRecDepth 100000 in
set_option maxHeartbeats 4000000 in
theorem built_tt (F : Interp) (a0 a3 a4 a5 : Addr) (t0 t3 t4 t5 : ByteArray) (bv : Value) (tail : List UInt8) (form es : Int) (n p lim : Nat) (w : World) (hF : F.answers w.tape) (hS : Sent a0 a3 a4 a5 t0 t3 t4 t5 w) (hb : BytesIn w bv tail)
    (hf0 : 0 ≤ form) (hf1 : form ≤ 255) (he0 : 0 ≤ es) (he1 : es ≤ 255) (hn : n < 18446744073709551616) (hp : p < 18446744073709551616) (hlm : lim < 18446744073709551616) :
    Calls Ybaf.prog 5 #[.int .u8 form, .bool true, .int .u64 n, .int .u64 p, bv, .int .u8 es, .bool true, .int .u64 lim] w fun e w' => e = .returned (.bool true) ∧ Below w.heap.size w w' := by
  obtain ⟨i0, hi, hz0, hz1, hz2⟩ := info_parts Ybaf.info5
  have hbv := hb
  obtain ⟨a, c, rfl, _, _⟩ := hb
  by_cases hl : tail.length ≤ 1024
  · have q1 : ¬ (1024 : Int) < tail.length := by omega
    obtain ⟨E, hE⟩ : ∃ E : Nat, (es % 4 + 1 : Int) = (E : Int) := ⟨(es % 4 + 1).toNat, by omega⟩
    have hE0 : 0 < E := by omega
    have hE1 : E ≤ 4 := by omega
    have hA10 := Lib.uvarint_length64 hn
    have hC10 := Lib.uvarint_length64 hp
    have hA1 := Lib.uvarint_pos n
    obtain ⟨A, hA⟩ : ∃ A, Hid (A = (Lib.uvarint n).length) := ⟨_, hid_mk rfl⟩
    obtain ⟨C, hC⟩ : ∃ A, Hid (A = (Lib.uvarint p).length) := ⟨_, hid_mk rfl⟩
    rw [← hA.out] at hA10 hA1
    rw [← hC.out] at hC10
    obtain ⟨first, hfi⟩ : ∃ f : UInt8, Hid ((f.toNat : Int) = (form + 1) % 256) := by
      refine ⟨UInt8.ofNat ((form + 1) % 256).toNat, hid_mk ?_⟩
      simp <;> omega
    have hw0 : ∀ o : Obj, ∀ b, b < w.heap.size → (w.alloc o).heap[b]? = w.heap[b]? := fun o b hb => Below.heap_alloc _ _ _ hb
    have hBc : ∀ x : Int, ((w.alloc (.cells #[.int .u64 (lim : Int)] 22)).alloc (.cells #[.int .u8 x] 5)).ownsRow (w.heap.size + 1) 5 1 (.slice (some ⟨w.heap.size + 1, 0, none⟩) 1 1) 1 [.int .u8 x] := fun x => by
      have := World.ownsRow_lit (base := w.heap.size + 1) (e := 5) (size := 1) (w.alloc (.cells #[.int .u64 (lim : Int)] 22)) #[.int .u8 x] 1 (by simp) (by simp [maxLen]) rfl
      simpa using this
    have HA1 := hid_mk (fun x => Ybaf.binary_AppendUvarint (w.heap.size + 1) 1 n hn _ _ _ (hBc x) (by simp) (by omega))
    clear hBc
    have hbv2 := hbv
    go_enter Ybaf.func5, Ybaf.ntmps5
    go_wp2_with fail
    refine (HA1.out _).mono ?_
    rintro e w2 ⟨v2, rfl, ho2, bel2⟩
    rw [← hA.out] at ho2
    obtain ⟨D, hD⟩ : ∃ D, Hid (D = 1 + A) := ⟨_, hid_mk rfl⟩
    have hD11 : D ≤ 11 := by have := hD.out; omega
    rw [← hD.out] at ho2
    obtain ⟨a2, c2, rfl, hc2, hc2', _⟩ := shape_of ho2
    have hs2 := bel2.size
    simp at hs2
    have h02 : ∀ b, b < w.heap.size + 1 → w2.heap[b]? = (w.alloc (.cells #[.int .u64 (lim : Int)] 22)).heap[b]? := fun b hb => (bel2.block b hb).trans (Below.heap_alloc _ _ _ (by simp; omega))
    have HA2 := hid_mk (Ybaf.binary_AppendUvarint (w.heap.size + 1) D p hp _ _ w2 ho2 (by omega) (by omega))
    go_wp2_with fail
    refine HA2.out.mono ?_
    rintro e w3 ⟨v3, rfl, ho3, bel3⟩
    rw [← hC.out] at ho3
    obtain ⟨G, hG⟩ : ∃ D', Hid (D' = D + C) := ⟨_, hid_mk rfl⟩
    have hG21 : G ≤ 21 := by have := hG.out; omega
    rw [← hG.out] at ho3
    obtain ⟨a3', c3, rfl, hc3, hc3', _⟩ := shape_of ho3
    have hs3 := bel3.size
    have h03 : ∀ b, b < w.heap.size + 1 → w3.heap[b]? = (w.alloc (.cells #[.int .u64 (lim : Int)] 22)).heap[b]? := fun b hb => (bel3.block b hb).trans (h02 b hb)
    have hbs3 := hbv.mono (fun b hb => (h03 b (by omega)).trans (hw0 _ b hb))
    have hsrc := hbs3.src
    obtain ⟨xs3, hxs3⟩ : ∃ x, Hid (x = [Value.int .u8 (first.toNat : Int)] ++ Lib.byteCells (Lib.uvarint n) ++ Lib.byteCells (Lib.uvarint p)) := ⟨_, hid_mk rfl⟩
    rw [← hfi.out, ← hxs3.out] at ho3
    clear HA2
    go_wp2_with (at_builtin; refine wpList_append_src _ rfl _ _ 33 33 rfl (w.heap.size + 1) 5 i0 (.int .u8 0) 1 1 Ybaf.underlying33 hi hz0 hz1 hz2 rfl _ G xs3 rfl _ tail.length (Lib.byteCells tail) rfl ho3 hsrc ?b1 ?b2 ?b3 ?b4)
    case b1 => unfold maxLen; omega
    case b2 => omega
    case b3 => omega
    case b4 =>
      intro v4 w4 ho4 hg4 _ _ _
      obtain ⟨l, hl'⟩ : ∃ l, Hid (l = lst first n p tail) := ⟨_, hid_mk rfl⟩
      have hll : Hid (l.length = G + tail.length) := hid_mk (by rw [hl'.out, lst_len, ← hA.out, ← hC.out, hG.out, hD.out])
      have hl1k : l.length ≤ 2000 := by have := hll.out; omega
      have ho4' : w4.ownsRow (w.heap.size + 1) 5 1 v4 l.length (Lib.byteCells l) := by
        rw [hll.out, hl'.out, lst_cells, ← hxs3.out]; exact ho4
      have hlp : 0 < l.length := by rw [hl'.out, lst_len]; omega
      obtain ⟨a4', c4, rfl, hc4, hc4', hsh4⟩ := shape_of ho4'
      obtain ⟨g, rfl, hg0, hg1⟩ := hsh4 hlp
      have hs4 := hg4.size
      have h04 : ∀ b, b < w.heap.size + 1 → w4.heap[b]? = (w.alloc (.cells #[.int .u64 (lim : Int)] 22)).heap[b]? := fun b hb => (hg4.block b (by omega) (fun e => by have := (ho3.lt b e.symm).1; omega)).trans (h03 b hb)
      have HC := hid_mk (clone_walk _ l w4 (ownsRow_bytesIn ho4') (by omega))
      have bel4 : Below w.heap.size w w4 := ⟨hg4.os.trans (bel3.os.trans bel2.os), hg4.tape.trans (bel3.tape.trans bel2.tape), hg4.output.trans (bel3.output.trans bel2.output), by omega, fun b hb => (h04 b (by omega)).trans (hw0 _ b hb)⟩
      have hlim4 : w4.cell? ⟨w.heap.size, 0, none⟩ = some (.int .u64 (lim : Int)) := (World.cell?_of_block (w := w.alloc (.cells #[.int .u64 (lim : Int)] 22)) (a := ⟨w.heap.size, 0, none⟩) (h04 w.heap.size (by omega))).trans (by simp)
      clear ho4 hg4 hsrc ho3 ho2 h03 h02 hbs3
      go_wp2_with fail
      refine HC.out.mono ?_
      rintro e w5 ⟨v5, rfl, ho5, hg5⟩
      have hs5 := hg5.size
      have h45 : ∀ b, b < w4.heap.size → w5.heap[b]? = w4.heap[b]? := fun b hb => hg5.block b hb (by simp)
      have ho45 := own_keep ho4' h45
      clear HC
      go_wp2_with fail
      refine (new_walk refT w5).mono ?_
      rintro e w6 ⟨rfl, rfl⟩
      go_wp2_with fail
      have hS6 : Sent a0 a3 a4 a5 t0 t3 t4 t5 (w6of w5) := hS.mono (fun b hb => (w6_block w5 b (by omega)).trans ((h45 b (by omega)).trans (bel4.block b hb)))
      have bel5 : Below w.heap.size w w5 := bel4.grown hg5 (by omega) (fun k hk => by cases hk)
      have bel6 := w6_below w5 bel5 (by omega)
      have hF6 : F.answers (w6of w5).tape := by rw [bel6.tape]; exact hF
      have ho46 := own_keep ho45 (w6_block w5)
      have hB6 := own_at ho46
      have hcb6 := w6_calls w5
      have hb5 : BytesIn w5 _ l := ownsRow_bytesIn ho45
      have hv5 : BytesIn w5 _ l := ownsRow_bytesIn ho5
      have hb6 := hb5.mono (w6_block w5)
      have hv6 := hv5.mono (w6_block w5)
      have hs6 := w6_size w5
      have hln : l ≠ [] := fun e => by rw [e] at hlp; exact absurd hlp (by simp)
      have hgd : Hid ((l.getD 0 0).toNat = first.toNat) := hid_mk (by rw [hl'.out]; rfl)
      clear ho4' ho45 ho5 ho46 h04 h45
      have hne : ((l.getD 0 0).toNat : Int) ≠ form := by rw [hgd.out, hfi.out]; omega
      have hlim6 : (w6of w5).cell? ⟨w.heap.size, 0, none⟩ = some (.int .u64 (lim : Int)) := (World.cell?_of_block (w := w4) (a := ⟨w.heap.size, 0, none⟩) ((w6_block w5 w.heap.size (by omega)).trans (hg5.block w.heap.size (by omega) (by simp)))).trans hlim4
      have hSt := start_fn F a0 a3 a4 a5 t0 t3 t4 t5 g 0 c4 form E sndT l (w5.heap.size + 2) w.heap.size (w5.heap.size + 1) lim ⟨w5.heap.size, 0, none⟩ (w6of w5) hF6 hS6 (by omega) hc4 hc4' hf0 hf1 hE0 hE1 hln hB6 (by omega) (by rw [hl'.out]; exact lst_rd1 hn) hcb6 hlim6 (w6_ref w5)
      have HSt := hid_mk hSt
      clear hSt
      refine HSt.out.mono ?_
      rintro e w7 ⟨gn, gp, go, ev, rfl, hend⟩
      rcases hend with ⟨_, rfl, rfl, rfl, pb, rfl, hp1, hp2, hpc, bel7⟩ | ⟨hc', _⟩
      rotate_left
      · exact absurd hc' hne
      have g0 := (hS6.mono bel7.block).g0
      have hk7 : w7.cell? ⟨w5.heap.size + 2, 0, none⟩ = some (.slice none 0 0) := calls_cell ((bel7.block _ (by omega)).trans hcb6)
      have HQ := hid_mk (beq_same _ _ l w7 (hb6.mono bel7.block) (hv6.mono bel7.block))
      have HI := hid_mk (is_wrap_same pb 0 a0 w7 (by simpa using hpc))
      have belF : Below w.heap.size w w7 := bel6.trans (bel7.mono bel6.size)
      clear hpc HSt hb5 hv5 hb6 hv6 hcb6 hS6
      go_wp2_with fail
      refine HQ.out.mono ?_
      rintro e w8 ⟨rfl, rfl⟩
      go_wp2_with fail
      refine HI.out.mono ?_
      rintro e w9 ⟨rfl, rfl⟩
      go_wp2
      go_ret
      exact ⟨rfl, belF⟩
  · have q1 : (1024 : Int) < tail.length := by omega
    go_enter Ybaf.func5, Ybaf.ntmps5
    go_wp2
    go_ret
    exact ⟨rfl, (Below.refl _ _).alloc (Nat.le_refl _) _⟩
end Go.Proofs.YbulkbzsuFmt

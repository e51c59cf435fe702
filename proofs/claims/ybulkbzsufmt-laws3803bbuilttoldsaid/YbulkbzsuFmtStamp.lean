import Derived.Test.YbulkbzsuFmtRead
namespace Go.Proofs.YbulkbzsuFmt
open Go.RowKit Go.Extern.Stop Go.Stop Go.Extern
set_option linter.unusedVariables false
set_option linter.unusedSimpArgs false

theorem Bad.from {w wX w' : World} {a : Addr} {v : Value} (hB : Below w.heap.size w wX) (h : Bad wX a v w') : Bad w a v w' := by
  obtain ⟨pb, h1, h2, h3, h4, h5⟩ := h
  have := hB.size
  exact ⟨pb, h1, by omega, h3, h4, hB.trans (h5.mono this)⟩

theorem Below.drewN' {B : Nat} {a w : World} (h : Below B a w) (n : Nat) : Below B a (w.drewN n) := ⟨h.os, h.tape, h.output, h.size, h.block⟩

theorem Sent.at {a0 a3 a4 a5 : Addr} {t0 t3 t4 t5 : ByteArray} {w : World} (h : Sent a0 a3 a4 a5 t0 t3 t4 t5 w) (k : Nat) (hk : k ≠ 0) : ∃ a t, errA a3 a4 a5 k = .iface 61 (.pointer (some a)) ∧ w.cell? a = some (.string t) := by
  rcases k with _ | _ | _ | k
  · exact absurd rfl hk
  · exact ⟨a3, t3, rfl, h.s3⟩
  · exact ⟨a4, t4, rfl, h.s4⟩
  · exact ⟨a5, t5, rfl, h.s5⟩

/-- 'uvarint's error, by its contract. -/
theorem uv_bad (F : Interp) (a0 a3 a4 a5 : Addr) (t0 t3 t4 t5 : ByteArray) (n : Int) (what : ByteArray) (x : Addr) (t : ByteArray) (w : World) (hF : F.answers w.tape) (hS : Sent a0 a3 a4 a5 t0 t3 t4 t5 w) (hx : w.cell? x = some (.string t)) :
    Calls Ybaf.prog 27 #[.int .i64 n, .string txtF5, .slice (some ⟨w.heap.size, 0, none⟩) 2 2] (w.alloc (.cells #[.iface 9 (.string what), .iface 61 (.pointer (some x))] 20)) fun e w' => ∃ v, e = .returned v ∧ Bad w a0 v w' := by
  have hB : Below w.heap.size w (w.alloc (.cells #[.iface 9 (.string what), .iface 61 (.pointer (some x))] 20)) := (Below.refl _ w).alloc (Nat.le_refl _) _
  have hS' := hS.mono hB.block
  refine (bad_F5 F t0 n a0 what x t w.heap.size _ (by exact hF) hS'.g0 hS'.s0 (by go_simp) (by go_simp) ((hB.cell (p := x) (World.block_lt_of_cell? w _ hx)).trans hx)).mono ?_
  rintro e w' ⟨v, rfl, hv⟩
  exact ⟨v, rfl, hv.from hB⟩

def UvEnd (w : World) (a0 : Addr) (off k V : Nat) (N : Int) (e : Ending) (w' : World) : Prop :=
  ∃ v p ev, e = .returned (.tuple #[.int .u64 v, .int .i64 p, ev]) ∧ ((k = 0 ∧ v = (V : Int) ∧ p = (off : Int) + N ∧ ev = .nilIface ∧ Below w.heap.size w w') ∨ (k ≠ 0 ∧ Bad w a0 ev w'))

set_option maxHeartbeats 800000 in
theorem uv_walk (F : Interp) (a0 a3 a4 a5 : Addr) (t0 t3 t4 t5 : ByteArray) (g o c off : Nat) (what : ByteArray) (l : List UInt8) (w : World) (hF : F.answers w.tape) (hS : Sent a0 a3 a4 a5 t0 t3 t4 t5 w) (hl : l.length ≤ 100000) (hc : l.length ≤ c) (hcm : c ≤ maxLen) (hoff : off ≤ l.length) (hb : BytesAt w g o l) :
    Calls Ybaf.prog 29 #[.slice (some ⟨g, o, none⟩) l.length c, .int .i64 off, .string what] w fun e w' => UvEnd w a0 off (rdErr (l.drop off)) (Lib.uvarintDec (l.drop off)).1 (Lib.uvarintDec (l.drop off)).2 e w' := by
  have hR : Calls Ybaf.prog 46 #[.slice (if c = off then some ⟨g, o, none⟩ else some ⟨g, o + off, none⟩) (l.length - off) (c - off)] w fun e w' => e = .returned (.tuple #[.int .u64 (if rdErr (l.drop off) = 0 then ((Lib.uvarintDec (l.drop off)).1 : Int) else 0), .int .i64 (if rdErr (l.drop off) = 0 then (Lib.uvarintDec (l.drop off)).2 else 0), errA a3 a4 a5 (rdErr (l.drop off))]) ∧ ∃ n, w' = w.drewN n := by
    have h1 : BytesAt w g (if c = off then o else o + off) (l.drop off) := by
      split
      · intro j hj; simp at hj; omega
      · exact hb.drop off
    have h2 := read_walk a0 a3 a4 a5 t0 t3 t4 t5 g (if c = off then o else o + off) (c - off) (l.drop off) w hS (by simp; omega) h1
    rw [List.length_drop] at h2
    split
    · rename_i h; simpa [h] using h2
    · rename_i h; simpa [h] using h2
  unfold maxLen at hcm
  have hdl := dec_canon (l.drop off) 0 0
  obtain ⟨k, hk⟩ : ∃ k, Hid (k = rdErr (l.drop off)) := ⟨_, hid_mk rfl⟩
  obtain ⟨V, hV⟩ : ∃ V, Hid (V = (Lib.uvarintDec (l.drop off)).1) := ⟨_, hid_mk rfl⟩
  obtain ⟨N, hN⟩ : ∃ N, Hid (N = (Lib.uvarintDec (l.drop off)).2) := ⟨_, hid_mk rfl⟩
  have hNb : k = 0 → 0 < N ∧ N ≤ 100000 := fun h0 => by
    have h1 : 0 < N := by
      have h2 := hk.out
      rw [h0] at h2
      unfold rdErr at h2
      rw [← hN.out] at h2
      split at h2
      · cases h2
      · split at h2
        · cases h2
        · omega
    obtain ⟨u, m, h3, h4, h5, _⟩ := hdl (by rw [hN.out] at h1; exact h1)
    have h6 : N = ((0 + m : Nat) : Int) := by rw [hN.out]; exact h5
    simp at h4
    omega
  rw [← hk.out, ← hV.out, ← hN.out] at hR
  rw [← hk.out, ← hV.out, ← hN.out]
  have HR := hid_mk hR
  clear hR hdl hb
  cases k with
  | zero =>
    have hNb' := hNb rfl
    have hbel : ∀ n, Below w.heap.size w (w.drewN n) := fun n => Below.drewN' (Below.refl _ _) n
    clear hNb
    simp only [if_true] at HR
    go_enter Ybaf.func29, Ybaf.ntmps29
    go_wp2_with (go_at_call 46; refine HR.out.mono ?_; rintro e w' ⟨rfl, n, rfl⟩; simp only [errA])
    all_goals go_ret3
    all_goals exact ⟨_, _, _, rfl, .inl ⟨rfl, rfl, rfl, rfl, hbel n⟩⟩
  | succ k =>
    obtain ⟨x, t, hx, hxt⟩ := hS.at (k + 1) (by omega)
    rw [hx] at HR
    simp only [Nat.add_one_ne_zero, if_false] at HR
    clear hNb
    have hU := fun n => uv_bad F a0 a3 a4 a5 t0 t3 t4 t5 (off : Int) what x t (w.drewN n) hF (hS.mono (w' := w.drewN n) (fun b hb => rfl)) hxt
    have HU := hid_mk hU
    clear hU hx
    go_enter Ybaf.func29, Ybaf.ntmps29
    go_wp2_with (first | (go_at_call 46; refine HR.out.mono ?_; rintro e w' ⟨rfl, n, rfl⟩) | (go_at_call 27; refine (HU.out _).mono ?_; rintro e w2 ⟨v, rfl, hv⟩))
    all_goals go_ret3
    all_goals exact ⟨_, _, _, rfl, .inr ⟨by omega, hv.from (Below.drewN' (Below.refl _ _) n)⟩⟩
end Go.Proofs.YbulkbzsuFmt

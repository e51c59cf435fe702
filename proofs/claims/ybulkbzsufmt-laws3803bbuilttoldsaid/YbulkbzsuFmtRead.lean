import Derived.Test.YbulkbzsuFmtVar
import Derived.Test.YbulkbzsuFmtBad
import Derived.Test.YbulkbzsuFmtIs
import Derived.Deep.QuietTactic
import Derived.BigQuiet
import Derived.Deep.RegionHeld3
import Derived.Deep.DrawnRows
namespace Go.Proofs.YbulkbzsuFmt
open Go.RowKit Go.Extern.Stop Go.Stop Go.Extern
set_option linter.unusedVariables false
set_option linter.unusedSimpArgs false

/-- The four sentinels. -/
structure Sent (a0 a3 a4 a5 : Addr) (t0 t3 t4 t5 : ByteArray) (w : World) : Prop where
  g0 : w.cell? ⟨0, 0, none⟩ = some (.iface 61 (.pointer (some a0)))
  g3 : w.cell? ⟨3, 0, none⟩ = some (.iface 61 (.pointer (some a3)))
  g4 : w.cell? ⟨4, 0, none⟩ = some (.iface 61 (.pointer (some a4)))
  g5 : w.cell? ⟨5, 0, none⟩ = some (.iface 61 (.pointer (some a5)))
  s0 : w.cell? a0 = some (.string t0)
  s3 : w.cell? a3 = some (.string t3)
  s4 : w.cell? a4 = some (.string t4)
  s5 : w.cell? a5 = some (.string t5)

theorem Sent.mono {a0 a3 a4 a5 : Addr} {t0 t3 t4 t5 : ByteArray} {w w' : World} (h : Sent a0 a3 a4 a5 t0 t3 t4 t5 w) (hb : ∀ b, b < w.heap.size → w'.heap[b]? = w.heap[b]?) : Sent a0 a3 a4 a5 t0 t3 t4 t5 w' := by
  have k : ∀ a v, w.cell? a = some v → w'.cell? a = some v := fun a v hv => (World.cell?_of_block (w := w) (a := a) (hb _ (World.block_lt_of_cell? w _ hv))).trans hv
  exact ⟨k _ _ h.g0, k _ _ h.g3, k _ _ h.g4, k _ _ h.g5, k _ _ h.s0, k _ _ h.s3, k _ _ h.s4, k _ _ h.s5⟩

/-- Bytes that can be read at a place. -/
def BytesAt (w : World) (g o : Nat) (l : List UInt8) : Prop := ∀ j (hj : j < l.length), w.cell? ⟨g, o + j, none⟩ = some (.int .u8 (l[j]).toNat)

theorem BytesAt.drop {w : World} {g o : Nat} {l : List UInt8} (h : BytesAt w g o l) (k : Nat) : BytesAt w g (o + k) (l.drop k) := fun j hj => by
  have hj' : k + j < l.length := by simp at hj; omega
  have := h (k + j) hj'
  rw [Nat.add_assoc, this]
  simp

def rdErr (l : List UInt8) : Nat :=
  if (Lib.uvarintDec l).2 = 0 then 1 else if (Lib.uvarintDec l).2 < 0 then 2 else if 1 < (Lib.uvarintDec l).2 ∧ l.getD ((Lib.uvarintDec l).2.toNat - 1) 0 = 0 then 3 else 0

def errA (a3 a4 a5 : Addr) : Nat → Value
  | 0 => .nilIface
  | 1 => .iface 61 (.pointer (some a3))
  | 2 => .iface 61 (.pointer (some a4))
  | _ => .iface 61 (.pointer (some a5))

set_option maxHeartbeats 800000 in
theorem read_walk (a0 a3 a4 a5 : Addr) (t0 t3 t4 t5 : ByteArray) (g o c : Nat) (l : List UInt8) (w : World) (hS : Sent a0 a3 a4 a5 t0 t3 t4 t5 w) (hl : l.length ≤ 100000) (hb : BytesAt w g o l) :
    Calls Ybaf.prog 46 #[.slice (some ⟨g, o, none⟩) l.length c] w fun e w' => e = .returned (.tuple #[.int .u64 (if rdErr l = 0 then ((Lib.uvarintDec l).1 : Int) else 0), .int .i64 (if rdErr l = 0 then (Lib.uvarintDec l).2 else 0), errA a3 a4 a5 (rdErr l)]) ∧ ∃ n, w' = w.drewN n := by
  have hU := Ybaf.binary_Uvarint g o l.length c l w rfl hb
  have hc := dec_canon l 0 0
  obtain ⟨V, hV⟩ : ∃ V, Hid (V = (Lib.uvarintDec l).1) := ⟨_, hid_mk rfl⟩
  obtain ⟨N, hN⟩ : ∃ N, Hid (N = (Lib.uvarintDec l).2) := ⟨_, hid_mk rfl⟩
  obtain ⟨k, hk⟩ : ∃ k, Hid (k = rdErr l) := ⟨_, hid_mk rfl⟩
  have hNl : 0 < N → N ≤ l.length := fun h => by
    obtain ⟨u, m, h1, h2, h3, _⟩ := hc (by have := hN.out; rw [this] at h; exact h)
    have h4 : N = ((0 + m : Nat) : Int) := by rw [hN.out]; exact h3
    omega
  rw [← hV.out, ← hN.out] at hU
  rw [← hV.out, ← hN.out, ← hk.out]
  have e3 := hS.g3
  have e4 := hS.g4
  have e5 := hS.g5
  have HU := hid_mk hU
  clear hU hc
  by_cases h0 : N = 0
  · have hk1 : k = 1 := by rw [hk.out]; unfold rdErr; rw [← hN.out, if_pos h0]
    subst hk1
    go_enter Ybaf.func46, Ybaf.ntmps46
    go_wp2_with (go_at_call 60; refine HU.out.mono ?_; rintro e w' ⟨rfl, rfl⟩)
    go_quiet (fail)
    go_wp2
    go_ret3
    exact ⟨rfl, _, rfl⟩
  · by_cases h1 : N < 0
    · have hk1 : k = 2 := by rw [hk.out]; unfold rdErr; rw [← hN.out, if_neg h0, if_pos h1]
      subst hk1
      go_enter Ybaf.func46, Ybaf.ntmps46
      go_wp2_with (go_at_call 60; refine HU.out.mono ?_; rintro e w' ⟨rfl, rfl⟩)
      go_quiet (fail)
      go_wp2
      go_ret3
      exact ⟨rfl, _, rfl⟩
    · have hNl' := hNl (by omega)
      clear hNl
      obtain ⟨M, rfl⟩ : ∃ M : Nat, N = (M : Int) := ⟨N.toNat, by omega⟩
      by_cases h2 : 1 < M
      · have hMl : M - 1 < l.length := by omega
        have hcell := hb (M - 1) hMl
        have hgd : l.getD (M - 1) 0 = l[M - 1] := by simp [List.getD, List.getElem?_eq_getElem hMl]
        obtain ⟨y, hy⟩ : ∃ y, Hid (y = (l[M - 1]).toNat) := ⟨_, hid_mk rfl⟩
        rw [← hy.out] at hcell
        by_cases h3 : y = 0
        · have hk1 : k = 3 := by
            rw [hk.out]; unfold rdErr; rw [← hN.out, if_neg h0, if_neg h1, if_pos]
            refine ⟨by omega, ?_⟩
            rw [show ((M : Int)).toNat - 1 = M - 1 by omega, hgd]
            exact UInt8.toNat_inj.1 (by rw [← hy.out, h3]; rfl)
          subst hk1
          have hy0 : ((y : Int) == 0) = true := by simp; omega
          clear hb hgd hk
          go_enter Ybaf.func46, Ybaf.ntmps46
          go_wp2_with (go_at_call 60; refine HU.out.mono ?_; rintro e w' ⟨rfl, rfl⟩)
          go_quiet (fail)
          go_wp2
          go_ret3
          exact ⟨rfl, _, rfl⟩
        · have hk1 : k = 0 := by
            rw [hk.out]; unfold rdErr; rw [← hN.out, if_neg h0, if_neg h1, if_neg]
            rintro ⟨_, h⟩
            rw [show ((M : Int)).toNat - 1 = M - 1 by omega, hgd] at h
            apply h3
            rw [hy.out, h]; rfl
          subst hk1
          have hy0 : ¬ ((y : Int) = 0) := by omega
          clear hb hgd hk
          go_enter Ybaf.func46, Ybaf.ntmps46
          go_wp2_with (go_at_call 60; refine HU.out.mono ?_; rintro e w' ⟨rfl, rfl⟩)
          go_ret3
          exact ⟨rfl, 0, rfl⟩
      · have hk1 : k = 0 := by
          rw [hk.out]; unfold rdErr; rw [← hN.out, if_neg h0, if_neg h1, if_neg (by rintro ⟨h, _⟩; omega)]
        subst hk1
        clear hb hk
        go_enter Ybaf.func46, Ybaf.ntmps46
        go_wp2_with (go_at_call 60; refine HU.out.mono ?_; rintro e w' ⟨rfl, rfl⟩)
        go_ret3
        exact ⟨rfl, 0, rfl⟩
end Go.Proofs.YbulkbzsuFmt

import Derived.Test.YbulkbzsuFmtProg
import Derived.Lib.ParseIntB
import Derived.Lib.LastIndexByte
namespace Go.Proofs.YbulkbzsuFmt
set_option linter.unusedVariables false

/-- What ParseName makes of a text: the host and the count, or nothing. -/
def nameOf (s : ByteArray) : Option (ByteArray × Nat) :=
  if Lib.lastIndexByte s 58 < 0 then none
  else match Lib.parseUintB 64 (s.extract (Lib.lastIndexByte s 58 + 1).toNat s.size).data.toList with
    | .ok u => some (s.extract 0 (Lib.lastIndexByte s 58).toNat, u)
    | _ => none



theorem pB_cons (l : List UInt8) (h : l ≠ []) : Lib.parseUintB 64 l = Lib.parseUintM 18446744073709551615 0 l := by
  unfold Lib.parseUintB; rw [if_neg h]

theorem pB_lt (l : List UInt8) (acc u : Nat) (hacc : acc ≤ 18446744073709551615) (h : Lib.parseUintM 18446744073709551615 acc l = .ok u) : u ≤ 18446744073709551615 := by
  induction l generalizing acc with
  | nil => simp only [Lib.parseUintM, Lib.NumEnd.ok.injEq] at h; omega
  | cons c r ih =>
    unfold Lib.parseUintM at h
    split at h
    · split at h
      · cases h
      · split at h
        · cases h
        · exact ih _ (by omega) h
    · cases h

theorem pM_bad (c : UInt8) (r : List UInt8) (acc : Nat) (h : c.toNat < 48 ∨ 57 < c.toNat) : Lib.parseUintM 18446744073709551615 acc (c :: r) = .syntax := by
  unfold Lib.parseUintM; rw [if_neg (by omega)]
theorem pM_over (c : UInt8) (r : List UInt8) (acc : Nat) (h0 : 48 ≤ c.toNat) (h1 : c.toNat ≤ 57) (h : 1844674407370955161 < acc ∨ (acc = 1844674407370955161 ∧ 5 < c.toNat - 48)) : Lib.parseUintM 18446744073709551615 acc (c :: r) = .range := by
  unfold Lib.parseUintM; rw [if_pos ⟨h0, h1⟩]
  by_cases h2 : 1844674407370955162 ≤ acc
  · rw [if_pos h2]
  · rw [if_neg h2, if_pos (by omega)]
theorem pM_step (c : UInt8) (r : List UInt8) (acc : Nat) (h0 : 48 ≤ c.toNat) (h1 : c.toNat ≤ 57) (h : ¬ (1844674407370955161 < acc ∨ (acc = 1844674407370955161 ∧ 5 < c.toNat - 48))) : Lib.parseUintM 18446744073709551615 acc (c :: r) = Lib.parseUintM 18446744073709551615 (acc * 10 + (c.toNat - 48)) r ∧ acc * 10 + (c.toNat - 48) ≤ 18446744073709551615 := by
  refine ⟨?_, by omega⟩
  conv => lhs; unfold Lib.parseUintM
  rw [if_pos ⟨h0, h1⟩, if_neg (by omega), if_neg (by omega)]
end Go.Proofs.YbulkbzsuFmt

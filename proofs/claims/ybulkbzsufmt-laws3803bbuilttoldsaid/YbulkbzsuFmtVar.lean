import Derived.Test.YbulkbzsuFmtShelf
import Derived.Lib.VarintDec
import Derived.Lib.Varint
namespace Go.Proofs.YbulkbzsuFmt
open Go
set_option linter.unusedVariables false
set_option linter.unusedSimpArgs false

theorem u8_of (b : UInt8) (h : 128 ≤ b.toNat) (q : Nat) : ((b.toNat % 128 + 128 * q) % 128 + 128).toUInt8 = b := by
  have hb := b.toNat_lt
  have e : (b.toNat % 128 + 128 * q) % 128 + 128 = b.toNat := by omega
  rw [e]
  exact UInt8.ofNat_toNat

/-- What is read, if something is read, is the shortest form, or ends in a zero byte. -/
theorem dec_canon : ∀ (l : List UInt8) (i acc : Nat), 0 < (Lib.uvarintFrom i acc l).2 → ∃ u m : Nat, 1 ≤ m ∧ m ≤ l.length ∧ (Lib.uvarintFrom i acc l).2 = ((i + m : Nat) : Int) ∧ (Lib.uvarintFrom i acc l).1 = acc + u * 2 ^ (7 * i) ∧
    ((l.take m = Lib.uvarint u ∧ (1 < m → 0 < u ∧ l.getD (m - 1) 0 ≠ 0)) ∨ (1 < m ∧ l.getD (m - 1) 0 = 0)) := by
  intro l
  induction l with
  | nil => intro i acc h; simp [Lib.uvarintFrom] at h
  | cons b r ih =>
    intro i acc h
    have hb := b.toNat_lt
    simp only [Lib.uvarintFrom] at h ⊢
    split at h
    · omega
    · rename_i h10
      rw [if_neg h10]
      split at h
      · rename_i h128
        rw [if_pos h128]
        split at h
        · omega
        · rename_i h9
          rw [if_neg h9]
          refine ⟨b.toNat, 1, by omega, by simp, by simp, rfl, .inl ⟨?_, fun h => by omega⟩⟩
          rw [Lib.uvarint_small h128]
          simp
      · rename_i h128
        rw [if_neg h128]
        obtain ⟨u, m, hm1, hm2, h1, h2, h3⟩ := ih (i + 1) _ h
        refine ⟨b.toNat % 128 + 128 * u, m + 1, by omega, by simp; omega, by rw [h1]; congr 1; omega, ?_, ?_⟩
        · rw [h2, show 7 * (i + 1) = 7 * i + 7 by omega, Nat.pow_add]
          generalize 2 ^ (7 * i) = p
          rw [Nat.add_mul]
          have : u * (p * 2 ^ 7) = 128 * u * p := by rw [show (2 : Nat) ^ 7 = 128 from rfl, Nat.mul_comm p 128, ← Nat.mul_assoc, Nat.mul_comm u 128]
          omega
        · have hg : (b :: r).getD (m + 1 - 1) 0 = r.getD (m - 1) 0 := by
            obtain ⟨k, rfl⟩ : ∃ k, m = k + 1 := ⟨m - 1, by omega⟩
            rfl
          rw [hg]
          rcases h3 with ⟨h3, h4⟩ | ⟨h3, h4⟩
          · by_cases hu : u = 0
            · right
              subst hu
              have h5 : r.take m = [0] := by rw [h3, Lib.uvarint_small (by decide)]; rfl
              have hm : m = 1 := by
                have := congrArg List.length h5
                simp at this
                omega
              subst hm
              refine ⟨by omega, ?_⟩
              cases r with
              | nil => simp at h5
              | cons y t => simp at h5; simp [h5]
            · left
              refine ⟨?_, fun _ => ⟨by omega, ?_⟩⟩
              · rw [List.take_succ_cons, h3, Lib.uvarint_big (x := b.toNat % 128 + 128 * u) (by omega), u8_of b (by omega) u, show (b.toNat % 128 + 128 * u) / 128 = u by omega]
              · by_cases hm : 1 < m
                · exact (h4 hm).2
                · obtain rfl : m = 1 := by omega
                  intro h0
                  cases r with
                  | nil => simp at hm2
                  | cons y t =>
                    simp at h0
                    subst h0
                    simp only [List.take_succ_cons, List.take_zero] at h3
                    by_cases h128' : u < 128
                    · rw [Lib.uvarint_small h128'] at h3
                      simp only [List.cons.injEq, and_true] at h3
                      have e := congrArg UInt8.toNat h3
                      simp at e
                      omega
                    · rw [Lib.uvarint_big (by omega)] at h3
                      have := congrArg List.length h3
                      have hp := Lib.uvarint_pos (u / 128)
                      simp only [List.length_cons, List.length_nil] at this
                      omega
          · right; exact ⟨by omega, h4⟩

theorem pow_le_of {i x : Nat} (hx : 128 ≤ x) (h : x * 2 ^ (7 * i) < 2 ^ 64) : i ≤ 8 := by
  rcases Nat.lt_or_ge 8 i with hi | hi
  · have h1 : 2 ^ (7 * 9) ≤ 2 ^ (7 * i) := Nat.pow_le_pow_right (by decide) (by omega)
    have h2 : 128 * 2 ^ (7 * 9) ≤ x * 2 ^ (7 * i) := Nat.mul_le_mul hx h1
    have h3 : (2 : Nat) ^ 64 ≤ 128 * 2 ^ (7 * 9) := by decide
    omega
  · exact hi

theorem dec_enc : ∀ (n x : Nat), x < n → ∀ (i acc : Nat) (rest : List UInt8), i ≤ 9 → x * 2 ^ (7 * i) < 2 ^ 64 →
    Lib.uvarintFrom i acc (Lib.uvarint x ++ rest) = (acc + x * 2 ^ (7 * i), ((i + (Lib.uvarint x).length : Nat) : Int)) := by
  intro n
  induction n with
  | zero => intro x hx; omega
  | succ n ih =>
    intro x hxn i acc rest hi hx
    by_cases h128 : x < 128
    · rw [Lib.uvarint_small h128]
      have e : x.toUInt8.toNat = x := by simp; omega
      simp only [List.cons_append, List.nil_append, Lib.uvarintFrom, e]
      rw [if_neg (by omega), if_pos h128, if_neg]
      · simp
      · rintro ⟨rfl, h1⟩
        have h3 : (2 : Nat) * 2 ^ (7 * 9) ≤ x * 2 ^ (7 * 9) := Nat.mul_le_mul_right _ (by omega)
        have h4 : (2 : Nat) ^ 64 ≤ 2 * 2 ^ (7 * 9) := by decide
        omega
    · have hi8 := pow_le_of (by omega) hx
      rw [Lib.uvarint_big (by omega)]
      have e : ((x % 128 + 128).toUInt8).toNat = x % 128 + 128 := by simp; omega
      simp only [List.cons_append, Lib.uvarintFrom, e]
      rw [if_neg (by omega), if_neg (by omega)]
      have hp : 2 ^ (7 * (i + 1)) = 128 * 2 ^ (7 * i) := by rw [show 7 * (i + 1) = 7 * i + 7 by omega, Nat.pow_add, Nat.mul_comm]
      have hle : x / 128 * 2 ^ (7 * (i + 1)) ≤ x * 2 ^ (7 * i) := by
        rw [hp, ← Nat.mul_assoc]
        exact Nat.mul_le_mul_right _ (by omega)
      rw [ih (x / 128) (by omega) (i + 1) _ rest (by omega) (by omega), hp]
      refine Prod.ext ?_ ?_
      · simp only []
        generalize 2 ^ (7 * i) = p
        have h1 : (x % 128 + 128) % 128 = x % 128 := by omega
        rw [h1]
        have h2 : x / 128 * (128 * p) = x / 128 * 128 * p := by rw [Nat.mul_assoc]
        have h3 : x % 128 * p + x / 128 * 128 * p = x * p := by rw [← Nat.add_mul]; congr 1; omega
        omega
      · simp only [List.length_cons]
        congr 1
        omega

theorem last_enc : ∀ (n x : Nat), x < n → 1 < (Lib.uvarint x).length → (Lib.uvarint x).getD ((Lib.uvarint x).length - 1) 0 ≠ 0 := by
  intro n
  induction n with
  | zero => intro x hx; omega
  | succ n ih =>
    intro x hxn hl
    by_cases h128 : x < 128
    · rw [Lib.uvarint_small h128] at hl; simp at hl
    · rw [Lib.uvarint_big (by omega)]
      have hp := Lib.uvarint_pos (x / 128)
      by_cases h2 : 1 < (Lib.uvarint (x / 128)).length
      · have := ih (x / 128) (by omega) h2
        simp only [List.length_cons, Nat.add_sub_cancel]
        obtain ⟨k, hk⟩ : ∃ k, (Lib.uvarint (x / 128)).length = k + 1 := ⟨(Lib.uvarint (x / 128)).length - 1, by omega⟩
        rw [hk] at this ⊢
        simpa using this
      · have hs : x / 128 < 128 := by
          rcases Nat.lt_or_ge (x / 128) 128 with h | h
          · exact h
          · rw [Lib.uvarint_big h] at h2
            have := Lib.uvarint_pos (x / 128 / 128)
            simp only [List.length_cons] at h2
            omega
        rw [Lib.uvarint_small hs]
        simp
        intro e
        have e2 := congrArg UInt8.toNat e
        simp at e2
        omega
end Go.Proofs.YbulkbzsuFmt

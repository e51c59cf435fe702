import Derived.Test.YbulkbzsuFmtModel
import Derived.Lib.ItoaNum
import Derived.Lib.Repeat
import Derived.WideShapes
namespace Go.Proofs.YbulkbzsuFmt
set_option linter.unusedVariables false
set_option linter.unusedSimpArgs false

theorem toNat_dig {d : Nat} (h : d < 10) : (UInt8.ofNat (48 + d)).toNat = 48 + d := by simp; omega

theorem pM_dec (r : List UInt8) : ∀ u : Nat, u ≤ 18446744073709551615 → Lib.parseUintM 18446744073709551615 0 (Lib.decDigits u ++ r) = Lib.parseUintM 18446744073709551615 u r := by
  intro u
  induction u using Nat.strongRecOn generalizing r with
  | _ u ih =>
    intro hu
    by_cases h : u < 10
    · rw [Lib.decDigits_one h, List.singleton_append]
      have hd := toNat_dig h
      obtain ⟨h1, _⟩ := pM_step (UInt8.ofNat (48 + u)) r 0 (by omega) (by omega) (by omega)
      rw [h1, hd]
      congr 1
      omega
    · rw [Lib.decDigits, dif_neg h, List.append_assoc, ih (u / 10) (by omega) _ (by omega), List.singleton_append]
      have hd := toNat_dig (d := u % 10) (by omega)
      obtain ⟨h1, _⟩ := pM_step (UInt8.ofNat (48 + u % 10)) r (u / 10) (by omega) (by omega) (by omega)
      rw [h1, hd]
      congr 1
      omega

theorem pM_zeros (r : List UInt8) : ∀ z : Nat, Lib.parseUintM 18446744073709551615 0 (Lib.repeatL [48] z ++ r) = Lib.parseUintM 18446744073709551615 0 r
  | 0 => rfl
  | z + 1 => by
    show Lib.parseUintM 18446744073709551615 0 (48 :: (Lib.repeatL [48] z ++ r)) = _
    obtain ⟨h1, _⟩ := pM_step 48 (Lib.repeatL [48] z ++ r) 0 (by decide) (by decide) (by omega)
    rw [h1]
    exact pM_zeros r z

theorem dec_digits : ∀ u : Nat, ∀ b ∈ Lib.decDigits u, 48 ≤ b.toNat ∧ b.toNat ≤ 57 := by
  intro u
  induction u using Nat.strongRecOn with
  | _ u ih =>
    intro b hb
    by_cases h : u < 10
    · rw [Lib.decDigits_one h, List.mem_singleton] at hb
      rw [hb, toNat_dig h]
      omega
    · rw [Lib.decDigits, dif_neg h, List.mem_append, List.mem_singleton] at hb
      rcases hb with hb | hb
      · exact ih (u / 10) (by omega) b hb
      · rw [hb, toNat_dig (by omega)]; omega

theorem rep_digits : ∀ z : Nat, ∀ b ∈ Lib.repeatL [48] z, 48 ≤ b.toNat ∧ b.toNat ≤ 57
  | 0, b, hb => by cases hb
  | z + 1, b, hb => by
    rcases List.mem_cons.1 (show b ∈ 48 :: Lib.repeatL [48] z from hb) with rfl | hb
    · decide
    · exact rep_digits z b hb

theorem dec_ne (u : Nat) : Lib.decDigits u ≠ [] := by
  by_cases h : u < 10
  · rw [Lib.decDigits_one h]; simp
  · rw [Lib.decDigits, dif_neg h]; simp

theorem bang_list (s : ByteArray) (l : List UInt8) (h : s.data.toList = l) (j : Nat) (hj : j < l.length) : s.data[j]! = l[j] := by
  subst h
  have hj' : j < s.data.size := by simpa using hj
  rw [getElem!_pos s.data j hj']
  simp

/-- The text HOST:000N reads back as HOST and N. -/
theorem name_back (h s : ByteArray) (z n : Nat) (hn : n ≤ 18446744073709551615) (hs : s.data.toList = h.data.toList ++ (58 :: (Lib.repeatL [48] z ++ Lib.decDigits n))) : nameOf s = some (h, n) := by
  obtain ⟨D, hD⟩ : ∃ D, D = Lib.repeatL [48] z ++ Lib.decDigits n := ⟨_, rfl⟩
  rw [← hD] at hs
  have hDd : ∀ b ∈ D, 48 ≤ b.toNat ∧ b.toNat ≤ 57 := by
    intro b hb
    rw [hD, List.mem_append] at hb
    rcases hb with hb | hb
    · exact rep_digits z b hb
    · exact dec_digits n b hb
  have hlen : s.size = h.size + 1 + D.length := by
    have := congrArg List.length hs
    simp at this
    have e1 : s.size = s.data.size := rfl
    have e2 : h.size = h.data.size := rfl
    omega
  have hat : ((s.data[h.size]!).toNat : Int) = 58 := by
    rw [bang_list s _ hs h.size (by simp)]
    rw [List.getElem_append_right (by simp)]
    simp
  have haft : ∀ j, h.size < j → j < s.size → ((s.data[j]!).toNat : Int) ≠ 58 := by
    intro j h1 h2
    have hl2 : j < (h.data.toList ++ 58 :: D).length := by simp; have e2 : h.size = h.data.size := rfl; omega
    rw [bang_list s _ hs j hl2, List.getElem_append_right (by simp; have e2 : h.size = h.data.size := rfl; omega)]
    have e2 : h.size = h.data.size := rfl
    have h3 : j - h.data.toList.length - 1 < D.length := by simp; omega
    have e3 : (58 :: D)[j - h.data.toList.length]'(by simp; omega) = D[j - h.data.toList.length - 1] := by
      rw [List.getElem_cons, dif_neg (by simp; omega)]
    rw [e3]
    have := hDd _ (List.getElem_mem h3)
    omega
  have hI : Lib.lastIndexByte s 58 = (h.size : Int) := by
    rcases Lib.lastIndexByte_spec s 58 with ⟨_, h2⟩ | ⟨i, h1, h2, h3, h4⟩
    · exact absurd hat (h2 h.size (by omega))
    · rw [h2]
      rcases Nat.lt_trichotomy i h.size with hlt | heq | hgt
      · exact absurd hat (h4 h.size hlt (by omega))
      · rw [heq]
      · exact absurd h3 (haft i hgt h1)
  have e2 : h.size = h.data.size := rfl
  have hx : (s.extract (h.size + 1) s.size).data.toList = D := by
    rw [ByteArray.data_extract, Array.toList_extract, hs, List.extract_eq_take_drop]
    have e : (h.data.toList ++ 58 :: D).drop (h.size + 1) = D := by
      rw [show h.data.toList ++ 58 :: D = (h.data.toList ++ [58]) ++ D by simp]
      refine List.drop_left' ?_
      rw [List.length_append, Array.length_toList, ← e2]
      rfl
    rw [e]
    exact List.take_of_length_le (by omega)
  have hh : s.extract 0 h.size = h := by
    apply WideShapes.bytes_inj
    rw [ByteArray.data_extract, Array.toList_extract, hs, List.extract_eq_take_drop]
    rw [List.drop_zero, Nat.sub_zero]
    refine (List.take_left' ?_)
    rw [Array.length_toList, ← e2]
  unfold nameOf
  rw [hI, if_neg (by omega)]
  have e3 : ((h.size : Int) + 1).toNat = h.size + 1 := by omega
  rw [e3, hx]
  have e4 : D ≠ [] := by rw [hD]; simp [dec_ne]
  have hp : Lib.parseUintB 64 D = .ok n := by
    rw [pB_cons D e4, hD, pM_zeros]
    have := pM_dec [] n hn
    rw [List.append_nil] at this
    rw [this]
    rfl
  rw [hp, Int.toNat_natCast, hh]
end Go.Proofs.YbulkbzsuFmt

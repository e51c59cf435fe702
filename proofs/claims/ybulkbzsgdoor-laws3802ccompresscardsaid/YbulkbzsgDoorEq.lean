import Derived.Test.YbulkbzsgDoorSoaM
namespace Go.Proofs.YbulkbzsgDoor
open Go.RowKit
set_option linter.unusedVariables false
set_option linter.unusedSimpArgs false

def lab (x : Int) : ByteArray := if x % 3 = 0 then { data := #[97] } else if x % 3 = 1 then { data := #[98] } else { data := #[97, 98] }

set_option maxHeartbeats 400000 in
theorem lab_walk (x : Int) (w : World) (h0 : 0 ≤ x) (h1 : x ≤ 255) : Calls Ybad.prog 9 #[.int .u8 x] w fun e w' => e = .returned (.string (lab x)) ∧ w' = w := by
  by_cases a : x % 3 = 0
  · have e : lab x = { data := #[97] } := by unfold lab; rw [if_pos a]
    rw [e]
    go_enter Ybad.func9, Ybad.ntmps9
    go_wp2
    go_ret
    exact ⟨rfl, rfl⟩
  · by_cases b : x % 3 = 1
    · have e : lab x = { data := #[98] } := by unfold lab; rw [if_neg a, if_pos b]
      rw [e]
      go_enter Ybad.func9, Ybad.ntmps9
      go_wp2
      go_ret
      exact ⟨rfl, rfl⟩
    · have e : lab x = { data := #[97, 98] } := by unfold lab; rw [if_neg a, if_neg b]
      rw [e]
      go_enter Ybad.func9, Ybad.ntmps9
      go_wp2
      go_ret
      exact ⟨rfl, rfl⟩

theorem toList_ne {s t : ByteArray} (h : s ≠ t) : (s.toList == t.toList) = false := by
  rw [beq_eq_false_iff_ne]
  intro e
  apply h
  cases s; cases t
  rw [ByteArray.toList_eq, ByteArray.toList_eq] at e
  simp at e
  rw [e]

theorem eq_ext {ss tt : List ByteArray} (hl : ss.length = tt.length) (h : ∀ j, j < ss.length → ss[j]? = tt[j]?) : ss = tt := by
  apply List.ext_getElem?
  intro j
  rcases Nat.lt_or_ge j ss.length with hj | hj
  · exact h j hj
  · rw [List.getElem?_eq_none hj, List.getElem?_eq_none (by omega)]

set_option maxHeartbeats 400000 in
theorem eq_walk (B : Nat) (a1 a2 : Option Addr) (c1 c2 : Nat) (ss tt : List ByteArray) (w : World) (h1 : StrsIn B w a1 ss) (h2 : StrsIn B w a2 tt) (hl : ss.length = tt.length) (hL : ss.length ≤ 1024) :
    Calls Ybad.prog 10 #[.slice a1 ss.length c1, .slice a2 tt.length c2] w fun e w' => ∃ n, e = .returned (.bool (decide (ss = tt))) ∧ w' = w.drewN n := by
  obtain ⟨q, hq⟩ : ∃ q, Hid (q = decide (ss = tt)) := ⟨_, hid_mk rfl⟩
  rw [← hq.out]
  have HL := hid_mk hl
  obtain ⟨L, hLe⟩ : ∃ L, Hid (L = ss.length) := ⟨_, hid_mk rfl⟩
  rw [← hl, ← hLe.out]
  rw [← hLe.out] at hL
  clear hl
  go_enter Ybad.func10, Ybad.ntmps10
  go_wp2
  go_loopw [13] (fun i wr => ∃ k n : Nat, k ≤ L ∧ i = .int .i64 k ∧ wr = w.drewN n ∧ ∀ j, j < k → ss[j]? = tt[j]?)
    (fun i _ => L - (intOf i).toNat)
  case atStart => exact ⟨0, 0, Nat.zero_le _, rfl, rfl, fun j hj => by omega⟩
  case round =>
    obtain ⟨k, n, hk, rfl, rfl, hsame⟩ := hrel
    by_cases hlt : k < L
    · obtain ⟨s, hs⟩ : ∃ s, ss[k]? = some s := ⟨ss[k]'(by have := hLe.out; omega), by simp [show k < ss.length by have := hLe.out; omega]⟩
      obtain ⟨t, ht⟩ : ∃ s, tt[k]? = some s := ⟨tt[k]'(by have := hLe.out; have := HL.out; omega), by simp [show k < tt.length by have := hLe.out; have := HL.out; omega]⟩
      obtain ⟨b1, o1, rfl, _, e1⟩ := h1 k s hs
      obtain ⟨b2, o2, rfl, _, e2⟩ := h2 k t ht
      have HS := hid_mk hs
      have HT := hid_mk ht
      clear hs ht
      by_cases hst : s = t
      · subst hst
        have hb : (s.toList == s.toList) = true := by simp
        go_wp2
        go_quiet (fail)
        go_wp2
        go_roundw
        case rel =>
          refine ⟨k + 1, _, by omega, by go_num, rfl, fun j hj => ?_⟩
          rcases Nat.lt_or_ge j k with h | h
          · exact hsame j h
          · obtain rfl : j = k := by omega
            rw [HS.out, HT.out]
        case measure => simp [intOf]; omega
      · have hb := toList_ne hst
        have HQ : Hid (q = false) := by
          refine hid_mk ?_
          rw [hq.out]
          refine decide_eq_false (fun e => hst ?_)
          have h1 := HS.out
          rw [e, HT.out] at h1
          exact (Option.some.inj h1).symm
        go_wp2
        go_quiet (fail)
        go_wp2
        go_ret
        exact ⟨_, by rw [HQ.out]; rfl, World.drewN_drewN _ _ _⟩
    · have HQ : Hid (q = true) := by
        refine hid_mk ?_
        rw [hq.out]
        exact decide_eq_true (eq_ext HL.out (fun j hj => hsame j (by have := hLe.out; omega)))
      go_wp2
      go_ret
      exact ⟨n, by rw [HQ.out]; rfl, rfl⟩
end Go.Proofs.YbulkbzsgDoor

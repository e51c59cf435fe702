import Derived.Test.YbulkbzsgBuild
import Derived.Test.YbulkbzsgBig
namespace Go.Proofs.Ybulkbzsg
open Go.RowKit
set_option linter.unusedVariables false
set_option linter.unusedSimpArgs false

structure RecRange (r : Rec) : Prop where
  sec : 0 ≤ r.sec ∧ r.sec ≤ 255
  lab : 0 ≤ r.lab ∧ r.lab ≤ 255
  udp : 0 ≤ r.udp ∧ r.udp ≤ 65535
  ext : 0 ≤ r.ext ∧ r.ext ≤ 255
  ver : 0 ≤ r.ver ∧ r.ver ≤ 255
  z : 0 ≤ r.z ∧ r.z ≤ 65535
  mode : 0 ≤ r.mode ∧ r.mode ≤ 255
  opts : ∀ o ∈ r.os, (0 ≤ o.1 ∧ o.1 ≤ 65535) ∧ ∀ x ∈ o.2, 0 ≤ x ∧ x ≤ 255

theorem RecRange.wf {r : Rec} (h : RecRange r) (ho : okRec r) : RecWf r :=
  ⟨h.sec, h.lab, h.udp, h.ext, h.ver, h.z, h.mode, ho.1, fun o hm => ⟨(h.opts o hm).1.1, (h.opts o hm).1.2, ho.2 o hm, (h.opts o hm).2⟩⟩

def unfilled (r : Rec) : Prop := r.mode % 3 = 1 ∨ (r.mode % 3 = 2 ∧ 0 < (encs r.os).length)

theorem enc_unfilled (r : Rec) : encs r.os ≠ encOf r ↔ unfilled r := by
  unfold encOf unfilled
  by_cases h1 : r.mode % 3 = 1
  · rw [if_pos h1]
    refine ⟨fun _ => .inl h1, fun _ h => ?_⟩
    have := congrArg List.length h
    simp at this
  · rw [if_neg h1]
    by_cases h2 : r.mode % 3 = 2
    · rw [if_pos h2]
      constructor
      · intro h
        refine .inr ⟨h2, ?_⟩
        rcases Nat.eq_zero_or_pos (encs r.os).length with h0 | h0
        · exact absurd (by rw [List.eq_nil_of_length_eq_zero h0]; rfl) h
        · exact h0
      · intro h he
        rcases h with h | ⟨_, h⟩
        · exact h1 h
        · have := congrArg List.length he
          simp at this
          omega
    · rw [if_neg h2]
      exact ⟨fun h => absurd rfl h, fun h => by rcases h with h | ⟨h, _⟩ <;> contradiction⟩

/-- Is the query refused? -/
theorem fault_cons {rs : List Rec} {r : Rec} {t : List Rec} (h : rs.filter (·.has) = r :: t) :
    faultOf rs ≠ 1 ∧ (faultOf rs ≠ 0 ↔ (t ≠ [] ∨ r.sec % 3 ≠ 2 ∨ r.lab % 3 ≠ 0 ∨ unfilled r)) := by
  cases t with
  | nil =>
    rw [fault_one h]
    have := enc_unfilled r
    by_cases h1 : r.sec % 3 = 2 <;> by_cases h2 : r.lab % 3 = 0 <;> by_cases h3 : encs r.os = encOf r <;> simp [h1, h2, h3] <;> simp_all
  | cons x u =>
    have : faultOf rs = 2 := by unfold faultOf; rw [h]
    rw [this]
    simp

end Go.Proofs.Ybulkbzsg

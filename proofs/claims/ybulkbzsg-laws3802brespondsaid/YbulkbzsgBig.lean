import Derived.Test.YbulkbzsgBuildA
namespace Go.Proofs.Ybulkbzsg
open Go.RowKit
set_option linter.unusedVariables false
set_option linter.unusedSimpArgs false

def okRec (r : Rec) : Prop := r.os.length ≤ 1024 ∧ ∀ o ∈ r.os, o.2.length ≤ 1024
def okRecs (rs : List Rec) : Prop := rs.length ≤ 1024 ∧ ∀ r ∈ rs, okRec r

set_option maxHeartbeats 1000000 in
set_option maxRecDepth 100000 in
theorem big_walk (a : Option Addr) (cap : Nat) (rs : List Rec) (w : World) (hG : RecsArg w a rs) :
    Calls Yba.prog 5 #[.slice a rs.length cap] w fun e w' => w' = w ∧ (e = .returned (.bool true) ∨ (e = .returned (.bool false) ∧ okRecs rs)) := by
  by_cases hlen : rs.length ≤ 1024
  · go_enter Yba.func5, Yba.ntmps5
    go_wp2
    go_loop [10] (fun i => ∃ k : Nat, k ≤ rs.length ∧ i = .int .i64 k ∧ ∀ j r, j < k → rs[j]? = some r → okRec r)
      (fun i => rs.length - (intOf i).toNat)
    case atStart => exact ⟨0, Nat.zero_le _, rfl, fun j r h => absurd h (by omega)⟩
    case round =>
      obtain ⟨k, hk, rfl, hall⟩ := hrel
      by_cases hlt : k < rs.length
      · obtain ⟨r, hr⟩ : ∃ r, rs[k]? = some r := ⟨rs[k], by simp [hlt]⟩
        obtain ⟨b, off, rfl, hcells, hopts⟩ := hG k r hr
        obtain ⟨sec, lab, has, udp, ext, ver, dO, z, oa, oc, os, mode⟩ := r
        have c8 : w.cell? ⟨b, off + k * 10 + 8, none⟩ = some (.slice oa os.length oc) := hcells 8 _ rfl
        have Hr := hid_mk hr
        have Hall := hid_mk hall
        clear hr hall hcells
        simp only at hopts
        by_cases hol : os.length ≤ 1024
        · go_wp2
          go_loop [26] (fun i => ∃ q : Nat, q ≤ os.length ∧ i = .int .i64 q ∧ ∀ j o, j < q → os[j]? = some o → o.2.length ≤ 1024)
            (fun i => os.length - (intOf i).toNat)
          case atStart => exact ⟨0, Nat.zero_le _, rfl, fun j r h => absurd h (by omega)⟩
          case round =>
            obtain ⟨q, hq, rfl, hallq⟩ := hrel
            by_cases hql : q < os.length
            · obtain ⟨o, hoo⟩ : ∃ o, os[q]? = some o := ⟨os[q], by simp [hql]⟩
              obtain ⟨b2, off2, dv, rfl, hc0, hc1, hdv⟩ := hopts q o hoo
              obtain ⟨da, dc, rfl, _, _⟩ := hdv
              obtain ⟨code, data⟩ := o
              have Hq := hid_mk hallq
              have Ho := hid_mk hoo
              clear hallq hoo hc0
              simp only at hc1
              by_cases hdl : data.length ≤ 1024
              · go_wp2
                go_round
                case rel =>
                  refine ⟨q + 1, by omega, by go_num, fun j o hj ho => ?_⟩
                  rcases Nat.lt_or_ge j q with h | h
                  · exact Hq.out j o h ho
                  · obtain rfl : j = q := by omega
                    rw [Ho.out] at ho
                    cases ho
                    exact hdl
                case measure => simp [intOf]; omega
              · go_wp2
                go_ret
                exact ⟨rfl, .inl rfl⟩
            · obtain rfl : q = os.length := by omega
              have Hq := hid_mk hallq
              clear hallq
              go_wp2
              go_round
              case rel =>
                refine ⟨k + 1, by omega, by go_num, fun j r hj hr => ?_⟩
                rcases Nat.lt_or_ge j k with h | h
                · exact Hall.out j r h hr
                · obtain rfl : j = k := by omega
                  rw [Hr.out] at hr
                  cases hr
                  refine ⟨hol, fun o ho => ?_⟩
                  obtain ⟨j', hj'⟩ := List.getElem?_of_mem ho
                  have hjl : j' < os.length := by
                    rcases Nat.lt_or_ge j' os.length with hlt | hge
                    · exact hlt
                    · simp only at hj'; rw [List.getElem?_eq_none hge] at hj'; cases hj'
                  exact Hq.out j' o hjl hj'
              case measure => simp [intOf]; omega
        · go_wp2
          go_ret
          exact ⟨rfl, .inl rfl⟩
      · obtain rfl : k = rs.length := by omega
        have Hall := hid_mk hall
        clear hall
        go_wp2
        go_ret
        refine ⟨rfl, .inr ⟨rfl, hlen, fun r hr => ?_⟩⟩
        obtain ⟨j, hj⟩ := List.getElem?_of_mem hr
        have hjl : j < rs.length := by
          rcases Nat.lt_or_ge j rs.length with hlt | hge
          · exact hlt
          · rw [List.getElem?_eq_none hge] at hj; cases hj
        exact Hall.out j r hjl hj
  · go_enter Yba.func5, Yba.ntmps5
    go_wp2
    go_ret
    exact ⟨rfl, .inl rfl⟩
end Go.Proofs.Ybulkbzsg

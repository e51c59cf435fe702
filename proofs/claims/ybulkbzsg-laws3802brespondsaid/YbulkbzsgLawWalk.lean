import Derived.Test.YbulkbzsgTop
namespace Go.Proofs.Ybulkbzsg
open Go.RowKit
set_option linter.unusedVariables false
set_option linter.unusedSimpArgs false
attribute [local go_sem ↓] Go.wp_at_zero Go.wp_at_succ

def CntRel (rs : List Rec) (k : Nat) (c i : Value) : Prop :=
  c = .int .i64 ((rs.take k).filter (·.has)).length ∧
    (((rs.take k).filter (·.has) = [] ∧ i = .int .i64 (-1)) ∨ ∃ (j : Nat) (r : Rec), j < k ∧ rs[j]? = some r ∧ ((rs.take k).filter (·.has)).head? = some r ∧ i = .int .i64 j)

theorem filter_le (rs : List Rec) (k : Nat) : ((rs.take k).filter (·.has)).length ≤ k :=
  Nat.le_trans (List.length_filter_le _ _) (List.length_take_le _ _)

set_option maxHeartbeats 4000000 in
set_option maxRecDepth 100000 in
theorem law_walk (isNil : Bool) (a : Option Addr) (cap : Nat) (rs : List Rec) (pay : Int) (w : World) (hp : 0 ≤ pay ∧ pay ≤ 65535) (hG : RecsArg w a rs) (hrange : ∀ r ∈ rs, RecRange r) :
    Calls Yba.prog 3 #[.bool isNil, .slice a rs.length cap, .int .u16 pay] w fun e w' => e = .returned (.bool true) ∧ Below w.heap.size w w' := by
  cases isNil
  · go_enter Yba.func3, Yba.ntmps3
    go_wp2_with fail
    refine (big_walk a cap rs w hG).mono ?_
    rintro e w' ⟨rfl, (rfl | ⟨rfl, hok⟩)⟩
    · go_wp2
      go_ret
      exact ⟨rfl, Below.refl _ _⟩
    · have hwf : ∀ r ∈ rs, RecWf r := fun r hr => (hrange r hr).wf (hok.2 r hr)
      have hlen := hok.1
      go_wp2_with fail
      refine (build_walk a cap rs _ hwf hlen hG).mono ?_
      rintro e w1 ⟨M, G, c, rfl, hb1, hM, hRI⟩
      go_wp2_with fail
      refine (resp_walk _ M G c rs pay _ hwf hlen hM hRI).mono ?_
      rintro e w2 ⟨hb2, hr1, hr2⟩
      have hB2 : Below w'.heap.size w' w2 := hb1.trans (hb2.mono hb1.size)
      have hs2 := hB2.size
      have hG2 : RecsArg w2 a rs := hG.mono (fun b hb => hB2.block b hb)
      cases hfil : rs.filter (·.has) with
      | nil =>
        obtain rfl := hr1 (fault_none hfil)
        have Hfil := hid_mk hfil
        clear hfil hr1 hr2 hM hRI
        go_wp2
        go_loop [9, 10, 32] (fun c j i => ∃ k : Nat, k ≤ rs.length ∧ i = .int .i64 k ∧ c = .int .i64 0)
          (fun _ _ i => rs.length - (intOf i).toNat)
        case atStart => exact ⟨0, Nat.zero_le _, rfl, rfl⟩
        case round =>
          obtain ⟨k, hk, rfl, rfl⟩ := hrel
          by_cases hlt : k < rs.length
          · obtain ⟨r, hr⟩ : ∃ r, rs[k]? = some r := ⟨rs[k], by simp [hlt]⟩
            obtain ⟨b, off, rfl, hcells, _⟩ := hG2 k r hr
            have hhas : r.has = false := by
              cases hh : r.has with
              | false => rfl
              | true =>
                have : r ∈ rs.filter (·.has) := List.mem_filter.2 ⟨List.mem_of_getElem? hr, hh⟩
                rw [Hfil.out] at this
                cases this
            have c2 : w2.cell? ⟨b, off + k * 10 + 2, none⟩ = some (.bool false) := by rw [← hhas]; exact hcells 2 _ rfl
            have hbl : b < w2.heap.size := World.block_lt_of_cell? w2 _ c2
            clear hcells hr hhas
            go_wp2
            go_round
            case rel => exact ⟨k + 1, by omega, by go_num, rfl⟩
            case measure => simp [intOf]; omega
          · obtain rfl : k = rs.length := by omega
            go_wp2
            go_ret
            exact ⟨rfl, hB2.alloc hs2 _⟩
      | cons r t =>
        obtain ⟨f1, f2⟩ := fault_cons hfil
        obtain ⟨g, rfl, hg⟩ := hr2 f1
        have Hfil := hid_mk hfil
        obtain ⟨rc, hrc⟩ : ∃ x, Hid (x = respOf rs) := ⟨_, rfl⟩
        rw [← hrc.out] at hg ⊢
        obtain ⟨rcode, rdo, rlim⟩ := rc
        simp only at hg ⊢
        have hgl : g < w2.heap.size := heap_lt hg
        have o0 : w2.cell? ⟨g, 0, none⟩ = some (.int .u16 pay) := by rw [cell_of_row w2 _ _ _ _ _ hg]; rfl
        have o1 : w2.cell? ⟨g, 1, none⟩ = some (.int .u8 0) := by rw [cell_of_row w2 _ _ _ _ _ hg]; rfl
        have o2 : w2.cell? ⟨g, 2, none⟩ = some (.int .u8 0) := by rw [cell_of_row w2 _ _ _ _ _ hg]; rfl
        have o3 : w2.cell? ⟨g, 3, none⟩ = some (.bool rdo) := by rw [cell_of_row w2 _ _ _ _ _ hg]; rfl
        have o4 : w2.cell? ⟨g, 4, none⟩ = some (.int .u16 0) := by rw [cell_of_row w2 _ _ _ _ _ hg]; rfl
        have o5 : w2.cell? ⟨g, 5, none⟩ = some (.slice none 0 0) := by rw [cell_of_row w2 _ _ _ _ _ hg]; rfl
        have F2 := hid_mk f2
        clear hfil hr1 hr2 hM hRI hg f1 f2
        go_wp2
        go_loop [9, 10, 32] (fun c j i => ∃ k : Nat, k ≤ rs.length ∧ i = .int .i64 k ∧ CntRel rs k c j)
          (fun _ _ i => rs.length - (intOf i).toNat)
        case atStart => exact ⟨0, Nat.zero_le _, rfl, rfl, .inl ⟨rfl, rfl⟩⟩
        case round =>
          obtain ⟨k, hk, rfl, rfl, hidx⟩ := hrel
          have hfle := filter_le rs k
          by_cases hlt : k < rs.length
          · obtain ⟨r', hr⟩ : ∃ r, rs[k]? = some r := ⟨rs[k], by simp [hlt]⟩
            obtain ⟨b, off, rfl, hcells, _⟩ := hG2 k r' hr
            have c2 : w2.cell? ⟨b, off + k * 10 + 2, none⟩ = some (.bool r'.has) := hcells 2 _ rfl
            have hbl : b < w2.heap.size := World.block_lt_of_cell? w2 _ c2
            have HR := hid_mk (take_filter hr)
            have Hr := hid_mk hr
            clear hcells hr
            cases hh : r'.has with
            | false =>
              rw [hh] at c2
              have HR' : Hid ((rs.take (k + 1)).filter (·.has) = (rs.take k).filter (·.has)) := by
                have := HR.out
                rw [hh] at this
                exact hid_mk (by simpa using this)
              clear HR hh
              go_wp2
              go_round
              case rel =>
                refine ⟨k + 1, by omega, by go_num, by rw [HR'.out], ?_⟩
                rw [HR'.out]
                rcases hidx with h | ⟨j, r2, h1, h2⟩
                · exact .inl h
                · exact .inr ⟨j, r2, by omega, h2⟩
              case measure => simp [intOf]; omega
            | true =>
              rw [hh] at c2
              have HR' : Hid ((rs.take (k + 1)).filter (·.has) = (rs.take k).filter (·.has) ++ [r']) := by
                have := HR.out
                rw [hh] at this
                exact hid_mk (by simpa using this)
              clear HR hh
              rcases hidx with ⟨hf, rfl⟩ | ⟨j, r2, h1, h2, h3, rfl⟩
              · have Hf := hid_mk hf
                clear hf
                go_wp2
                go_round
                case rel =>
                  refine ⟨k + 1, by omega, by go_num, ?_, .inr ⟨k, r', by omega, Hr.out, by rw [HR'.out, Hf.out]; rfl, rfl⟩⟩
                  rw [HR'.out, List.length_append]
                  exact congrArg (Value.int .i64) (by simp)
                case measure => simp [intOf]; omega
              · have H2 := hid_mk h2
                have H3 := hid_mk h3
                clear h2 h3
                go_wp2
                go_round
                case rel =>
                  refine ⟨k + 1, by omega, by go_num, ?_, .inr ⟨j, r2, by omega, H2.out, ?_, rfl⟩⟩
                  · rw [HR'.out, List.length_append]
                    exact congrArg (Value.int .i64) (by simp)
                  · rw [HR'.out, List.head?_append, H3.out]; rfl
                case measure => simp [intOf]; omega
          · obtain rfl : k = rs.length := by omega
            rw [List.take_length, Hfil.out] at hidx
            obtain ⟨j, hjl, hj, rfl⟩ : ∃ j : Nat, j < rs.length ∧ rs[j]? = some r ∧ u10 = .int .i64 j := by
              rcases hidx with ⟨h, _⟩ | ⟨j, r2, h1, h2, h3, h4⟩
              · cases h
              · simp at h3
                subst h3
                exact ⟨j, h1, h2, h4⟩
            obtain ⟨cnt, hcnt⟩ : ∃ n, ((rs.take rs.length).filter (·.has)).length = n := ⟨_, rfl⟩
            rw [hcnt] at hfle ⊢
            have hct : Hid (cnt = t.length + 1) := by
              have h := hcnt
              rw [List.take_length, Hfil.out] at h
              exact hid_mk h.symm
            have hc1 : 1 ≤ cnt := by have := hct.out; omega
            clear hcnt hidx
            obtain ⟨b, off, rfl, hcells, hopts⟩ := hG2 j r hj
            have hwr := hwf r (List.mem_of_getElem? hj)
            obtain ⟨sec, lab, has, udp, ext, ver, dO, z, oa, oc, os, mode⟩ := r
            have c0 : w2.cell? ⟨b, off + j * 10, none⟩ = some (.int .u8 sec) := hcells 0 _ rfl
            have c1 : w2.cell? ⟨b, off + j * 10 + 1, none⟩ = some (.int .u8 lab) := hcells 1 _ rfl
            have c2 : w2.cell? ⟨b, off + j * 10 + 2, none⟩ = some (.bool has) := hcells 2 _ rfl
            have c3 : w2.cell? ⟨b, off + j * 10 + 3, none⟩ = some (.int .u16 udp) := hcells 3 _ rfl
            have c4 : w2.cell? ⟨b, off + j * 10 + 4, none⟩ = some (.int .u8 ext) := hcells 4 _ rfl
            have c5 : w2.cell? ⟨b, off + j * 10 + 5, none⟩ = some (.int .u8 ver) := hcells 5 _ rfl
            have c6 : w2.cell? ⟨b, off + j * 10 + 6, none⟩ = some (.bool dO) := hcells 6 _ rfl
            have c7 : w2.cell? ⟨b, off + j * 10 + 7, none⟩ = some (.int .u16 z) := hcells 7 _ rfl
            have c8 : w2.cell? ⟨b, off + j * 10 + 8, none⟩ = some (.slice oa os.length oc) := hcells 8 _ rfl
            have c9 : w2.cell? ⟨b, off + j * 10 + 9, none⟩ = some (.int .u8 mode) := hcells 9 _ rfl
            have hbl : b < w2.heap.size := World.block_lt_of_cell? w2 _ c0
            have hsec : 0 ≤ sec ∧ sec ≤ 255 := hwr.sec
            have hlab : 0 ≤ lab ∧ lab ≤ 255 := hwr.lab
            have hver : 0 ≤ ver ∧ ver ≤ 255 := hwr.ver
            have hmode : 0 ≤ mode ∧ mode ≤ 255 := hwr.mode
            have hudp : 0 ≤ udp ∧ udp ≤ 65535 := hwr.udp
            have holen : os.length ≤ 1024 := hwr.len
            have hoo : ∀ o ∈ os, OptWf o := hwr.opts
            simp only at hopts
            have Hj := hid_mk hj
            clear hcells hj
            go_wp2
            clear c0 c1 c2 c3 c4 c5 c6 c7 c8 c9
            go_loop [14, 108] (fun e i => ∃ q : Nat, q ≤ os.length ∧ i = .int .i64 q ∧ e = .int .i64 (encs (os.take q)).length)
              (fun _ i => os.length - (intOf i).toNat)
            case atStart => exact ⟨0, Nat.zero_le _, rfl, rfl⟩
            case round =>
              obtain ⟨q, hq, rfl, rfl⟩ := hrel
              have hell := encs_len_le (os.take q) (fun o ho => hoo o (List.mem_of_mem_take ho))
              simp only [List.length_take] at hell
              by_cases hql : q < os.length
              · obtain ⟨o, ho⟩ : ∃ o, os[q]? = some o := ⟨os[q], by simp [hql]⟩
                obtain ⟨b2, off2, dv, rfl, hc0, hc1, hdv⟩ := hopts q o ho
                obtain ⟨da, dc, rfl, _, _⟩ := hdv
                have hol := (hoo o (List.mem_of_getElem? ho)).2.2.1
                have HE := hid_mk (encs_succ os q o ho)
                obtain ⟨code, data⟩ := o
                simp only at hol hc1
                have hb2l : b2 < w2.heap.size := World.block_lt_of_cell? w2 _ hc1
                clear ho hc0
                go_wp2
                go_round
                case rel =>
                  refine ⟨q + 1, by omega, by go_num, ?_⟩
                  rw [HE.out, List.length_append, encO_len]
                  exact congrArg (Value.int .i64) (by simp only; omega)
                case measure => simp [intOf]; omega
              · obtain rfl : q = os.length := by omega
                rw [List.take_length]
                obtain ⟨L, hL⟩ : ∃ n, (encs os).length = n := ⟨_, rfl⟩
                rw [List.take_length, hL] at hell
                rw [hL]
                have HL := hid_mk hL
                have Hct1 : Hid (t ≠ [] ↔ 1 < cnt) := by
                  have := hct.out
                  refine hid_mk ⟨fun h => ?_, fun h e => ?_⟩
                  · have := List.length_pos_iff.2 h; omega
                  · rw [e] at this; simp at this; omega
                clear hL
                have hBend : Below w'.heap.size w' ((w2.alloc (.cells #[.int .u16 rcode, .pointer (some ⟨g, 0, none⟩), .int .i64 rlim] 30)).alloc (.cells #[.int .u8 sec, .int .u8 lab, .bool has, .int .u16 udp, .int .u8 ext, .int .u8 ver, .bool dO, .int .u16 z, .slice oa os.length oc, .int .u8 mode] 34)) :=
                  (hB2.alloc hs2 _).alloc (by simp; omega) _
                have Hform : Hid (faultOf rs ≠ 0 ↔ (1 < cnt ∨ sec % 3 ≠ 2 ∨ lab % 3 ≠ 0 ∨ mode % 3 = 1 ∨ (mode % 3 = 2 ∧ 0 < L))) := by
                  have h := F2.out
                  rw [Hct1.out] at h
                  simp only [unfilled, HL.out] at h
                  exact hid_mk h
                have hm3 : mode % 3 = 0 ∨ mode % 3 = 1 ∨ mode % 3 = 2 := by omega
                clear F2 hG2 hopts hoo
                by_cases hform : (1 < cnt ∨ sec % 3 ≠ 2 ∨ lab % 3 ≠ 0 ∨ mode % 3 = 1 ∨ (mode % 3 = 2 ∧ 0 < L))
                · have hv := hrc.out
                  rw [resp_bad (Hform.out.2 hform)] at hv
                  simp only [Prod.mk.injEq] at hv
                  obtain ⟨rfl, rfl, rfl⟩ := hv
                  clear hrc Hform Hfil hct Hct1
                  have hmL : mode % 3 = 0 ∨ mode % 3 = 1 ∨ (mode % 3 = 2 ∧ 0 < L) ∨ (mode % 3 = 2 ∧ L = 0) := by omega
                  have hrest : 1 < cnt ∨ (cnt = 1 ∧ sec % 3 ≠ 2) ∨ (cnt = 1 ∧ sec % 3 = 2 ∧ lab % 3 ≠ 0) ∨ (cnt = 1 ∧ sec % 3 = 2 ∧ lab % 3 = 0) := by omega
                  clear hm3
                  rcases hmL with m | m | ⟨m, l⟩ | ⟨m, l⟩ <;> rcases hrest with c | ⟨c, sv⟩ | ⟨c, sv, lv⟩ | ⟨c, sv, lv⟩
                  all_goals first
                    | (exfalso; omega)
                    | (clear hform
                       go_wp2
                       go_ret
                       exact ⟨rfl, hBend⟩)
                · obtain ⟨hf0, hc, hsv, hlv, hm1, hm2⟩ : faultOf rs = 0 ∧ cnt = 1 ∧ sec % 3 = 2 ∧ lab % 3 = 0 ∧ ¬ mode % 3 = 1 ∧ (mode % 3 = 2 → L = 0) := by
                    have h1 : ¬ faultOf rs ≠ 0 := fun h => hform (Hform.out.1 h)
                    refine ⟨by omega, by omega, by omega, by omega, by omega, by omega⟩
                  have ht : t = [] := by
                    have := hct.out
                    exact List.eq_nil_of_length_eq_zero (by omega)
                  subst ht
                  have hmL : mode % 3 = 0 ∨ (mode % 3 = 2 ∧ L = 0) := by omega
                  have hv := hrc.out
                  clear hform hm3 hm2 hm1 hrc Hform hct Hct1
                  by_cases hver0 : 0 < ver
                  · rw [resp_ver hf0 Hfil.out hver0] at hv
                    simp only [Prod.mk.injEq] at hv
                    obtain ⟨rfl, rfl, rfl⟩ := hv
                    clear hf0
                    rcases hmL with m | ⟨m, l⟩
                    all_goals
                      go_wp2
                      go_ret
                      exact ⟨rfl, hBend⟩
                  · rw [resp_ok hf0 Hfil.out hver0] at hv
                    simp only [Prod.mk.injEq] at hv
                    obtain ⟨rfl, rfl, rfl⟩ := hv
                    clear hf0
                    have hlimv : (512 ≤ udp ∧ Hid (limOf udp = udp)) ∨ (udp < 512 ∧ Hid (limOf udp = 512)) := by
                      rcases Int.lt_or_le udp 512 with h | h
                      · exact .inr ⟨h, if_pos h⟩
                      · exact .inl ⟨h, if_neg (by omega)⟩
                    have hdd : (rdo == rdo) = true := by cases rdo <;> rfl
                    rcases hlimv with ⟨h, e⟩ | ⟨h, e⟩
                    all_goals
                      rw [e.out] at hBend ⊢
                      clear e
                      rcases hmL with m | ⟨m, l⟩
                      all_goals
                        go_wp2
                        go_quiet (fail)
                        go_wp2
                        go_ret
                        exact ⟨rfl, hBend.trans ⟨rfl, rfl, rfl, Nat.le_refl _, fun _ _ => rfl⟩⟩
  · go_enter Yba.func3, Yba.ntmps3
    go_wp2_with fail
    refine (big_walk a cap rs w hG).mono ?_
    rintro e w' ⟨rfl, (rfl | ⟨rfl, hok⟩)⟩
    · go_wp2
      go_ret
      exact ⟨rfl, Below.refl _ _⟩
    · go_wp2_with fail
      refine (resp_nil pay _).mono ?_
      rintro e w2 ⟨rfl, hb2⟩
      go_wp2
      go_ret
      exact ⟨rfl, hb2.alloc hb2.size _⟩
end Go.Proofs.Ybulkbzsg

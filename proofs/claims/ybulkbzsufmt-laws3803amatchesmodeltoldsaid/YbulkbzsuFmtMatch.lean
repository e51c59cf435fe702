import Derived.Test.YbulkbzsuFmtName
import Derived.BigQuiet
namespace Go.Proofs.YbulkbzsuFmt
open Go.RowKit Go.Extern.Stop Go.Stop Go.Extern
set_option linter.unusedVariables false
set_option linter.unusedSimpArgs false

theorem eql_zero (w : World) : (binOp BinOp.eql 24 (.agg #[.string ByteArray.empty, .int .u64 0]) (.agg #[.string { data := #[] }, .int .u64 0])).run Ybaf.prog w = .ok (.bool true) w := by kernel_rfl

theorem byte_at (t : ByteArray) (k : Nat) (h : k < t.size) : t.data.toList.drop k = t[k] :: t.data.toList.drop (k + 1) := by
  have h' : k < t.data.toList.length := by simpa using h
  rw [List.drop_eq_getElem_cons h']
  rfl

set_option maxRecDepth 100000 in
set_option maxHeartbeats 2000000 in
theorem match_walk (F : Interp) (s : ByteArray) (v6 v7 : Value) (w : World) (hF : F.answers w.tape) (hE : Errs w v6 v7) :
    Calls Ybaf.prog 3 #[.string s] w fun e w' => e = .returned (.bool true) ∧ Below w.heap.size w w' := by
  by_cases hl : s.size ≤ 4096
  · have q1 : ¬ (4096 : Int) < s.size := by omega
    have HN := hide (name_walk F s (by omega) v6 v7 w hF hE)
    have hez := eql_zero
    go_enter Ybaf.func3, Ybaf.ntmps3
    go_wp2
    go_loopw [3, 4] (fun v3 v4 wr => ∃ (k : Nat) (I : Int), k ≤ s.size ∧ v4 = .int .i64 k ∧ v3 = .int .i64 I ∧ wr = w ∧ Hid (I = Lib.lastIdx s 58 k)) (fun _ v4 _ => s.size - (RowKit.intOf v4).toNat)
    case atStart => exact ⟨0, -1, by omega, rfl, rfl, rfl, hide rfl⟩
    case round =>
      obtain ⟨k, I, hk, rfl, rfl, rfl, hI⟩ := hrel
      rename World => w
      by_cases hks : k < s.size
      · have hks' : (k : Int) < (s.size : Int) := by omega
        have hby := LastIndex.byteBang s k hks
        have HH := hide (fun h => (Lib.lastIdx_hit s 58 k (by rw [hby]; exact h)))
        have HM := hide (fun h => (Lib.lastIdx_miss s 58 k (by rw [hby]; exact h)))
        clear hby
        go_wp2
        · rename_i hc
          exact ⟨⟨k + 1, (k : Int), by omega, by simp, rfl, trivial, hide (HH.out (by simpa using hc)).symm⟩, by simp [RowKit.intOf]; omega⟩
        · rename_i hc
          exact ⟨⟨k + 1, I, by omega, by simp, rfl, trivial, hide (hI.out.trans (HM.out (by simpa using hc)).symm)⟩, by simp [RowKit.intOf]; omega⟩
      · have hks' : ¬ (k : Int) < (s.size : Int) := by omega
        have hI' : Hid (I = Lib.lastIndexByte s 58) := hide (by rw [hI.out, show k = s.size by omega]; rfl)
        go_wp2_with fail
        refine HN.out.mono ?_
        rintro e w1 ⟨h, n, ev, rfl, bel1, hend⟩
        have HB := hide (bel1.alloc (o := .cells #[.string h, .int .u64 n] 24) bel1.size)
        by_cases hneg : I < 0
        · have hnm : nameOf s = none := by unfold nameOf; rw [if_pos (by rw [← hI'.out]; exact hneg)]
          rcases hend with ⟨_, rfl, rfl, p, rfl⟩ | ⟨u, h2, _⟩
          · clear hnm HN hI hI'
            go_wp2
            go_ret
            exact ⟨rfl, HB.out⟩
          · rw [hnm] at h2; cases h2
        · obtain ⟨j, rfl⟩ : ∃ j : Nat, I = (j : Int) := ⟨I.toNat, by omega⟩
          have hjs : j < s.size := by
            have hspec := Lib.lastIdx_spec s 58 s.size
            have e : (j : Int) = Lib.lastIdx s 58 s.size := hI'.out
            rcases hspec with ⟨h1, _⟩ | ⟨i, h1, h2, _⟩ <;> omega
          obtain ⟨T, hT⟩ : ∃ T, T = (s.extract (j + 1) s.size).size := ⟨_, rfl⟩
          have hTs : T ≤ 4096 := by rw [hT]; simp; omega
          have hT' := hT.symm
          clear hT HN
          go_wp2
          obtain ⟨t, ht⟩ : ∃ t, t = s.extract (j + 1) s.size := ⟨_, rfl⟩
          rw [← ht] at hT' ⊢
          have hnm : nameOf s = match Lib.parseUintB 64 t.data.toList with | .ok u => some (s.extract 0 j, u) | _ => none := by
            unfold nameOf
            rw [if_neg (by rw [← hI'.out]; omega), ← hI'.out, ht]
            have e : ((j : Int) + 1).toNat = j + 1 := by omega
            rw [e]
            rfl
          obtain ⟨r, hr⟩ : ∃ r, Hid (r = Lib.parseUintB 64 t.data.toList) := ⟨_, hide rfl⟩
          rw [← hr.out] at hnm
          have HNM := hide hnm
          clear hnm ht hI hI'
          by_cases hT0 : T = 0
          · have hd : decide (0 < T) = false := by simp [hT0]
            have hne : nameOf s = none := by
              have e : t.data.toList = [] := List.eq_nil_of_length_eq_zero (by simpa using hT'.trans hT0)
              rw [HNM.out, hr.out, e]; rfl
            rcases hend with ⟨_, rfl, rfl, p, rfl⟩ | ⟨u, h2, _⟩
            · rw [hd]
              clear hne
              go_loopw [8, 9, 10] (fun v8 v9 v10 wr => v8 = .bool false ∧ v9 = .int .u64 0 ∧ v10 = .int .i64 0 ∧ wr = w1.alloc (.cells #[.string ByteArray.empty, .int .u64 0] 24)) (fun _ _ _ _ => 0)
              case atStart => exact ⟨rfl, rfl, rfl, rfl⟩
              case round =>
                obtain ⟨rfl, rfl, rfl, rfl⟩ := hrel
                go_wp2
                go_ret
                exact ⟨rfl, HB.out⟩
            · rw [hne] at h2; cases h2
          · have hd : decide (0 < T) = true := by simp; omega
            have htl : t.data.toList ≠ [] := fun e => hT0 (by rw [← hT']; have := congrArg List.length e; simpa using this)
            have hrM : Hid (r = Lib.parseUintM 18446744073709551615 0 t.data.toList) := hide (hr.out.trans (pB_cons _ htl))
            rw [hd]
            clear htl hr
            rcases hend with ⟨hno, rfl, rfl, p, rfl⟩ | ⟨u, h2, rfl, rfl⟩
            · have hrn : Hid (∀ u, r ≠ .ok u) := hide (fun u e => by rw [HNM.out, e] at hno; cases hno)
              clear hno HNM
              go_loopw [8, 9, 10] (fun v8 v9 v10 wr => ∃ (k v : Nat), k ≤ T ∧ v ≤ 18446744073709551615 ∧ v8 = .bool true ∧ v9 = .int .u64 v ∧ v10 = .int .i64 k ∧ wr = w1.alloc (.cells #[.string ByteArray.empty, .int .u64 0] 24) ∧ Hid (Lib.parseUintM 18446744073709551615 v (t.data.toList.drop k) = r)) (fun _ _ v10 _ => T - (RowKit.intOf v10).toNat)
              case atStart => exact ⟨0, 0, by omega, by omega, rfl, rfl, rfl, rfl, hide (by rw [hrM.out]; rfl)⟩
              case round =>
                obtain ⟨k', v, hkT, hv, rfl, rfl, rfl, rfl, hP⟩ := hrel
                by_cases hkk : k' < T
                · have hkk' : (k' : Int) < (T : Int) := by omega
                  have hkt : k' < t.size := by omega
                  have hP2 := hP.out
                  rw [byte_at t k' hkt] at hP2
                  have h255 : t[k'].toNat ≤ 255 := by have := t[k'].toNat_lt; omega
                  by_cases hlo : t[k'].toNat < 48
                  · have f1 : (t[k'].toNat : Int) < 48 := by omega
                    go_wp2
                    go_ret
                    exact ⟨rfl, HB.out⟩
                  · have f1 : ¬ (t[k'].toNat : Int) < 48 := by omega
                    by_cases hhi : 57 < t[k'].toNat
                    · have f2 : (57 : Int) < (t[k'].toNat : Int) := by omega
                      go_wp2
                      go_ret
                      exact ⟨rfl, HB.out⟩
                    · have f2 : ¬ (57 : Int) < (t[k'].toNat : Int) := by omega
                      by_cases ho1 : 1844674407370955161 < v
                      · have f3 : (1844674407370955161 : Int) < (v : Int) := by omega
                        go_wp2
                        go_ret
                        exact ⟨rfl, HB.out⟩
                      · have f3 : ¬ (1844674407370955161 : Int) < (v : Int) := by omega
                        by_cases ho2 : v = 1844674407370955161 ∧ 5 < t[k'].toNat - 48
                        · have f4 : (v : Int) = 1844674407370955161 := by omega
                          have f5 : (5 : Int) < (t[k'].toNat : Int) - 48 := by omega
                          go_wp2
                          go_ret
                          exact ⟨rfl, HB.out⟩
                        · obtain ⟨hst, hle⟩ := pM_step t[k'] (t.data.toList.drop (k' + 1)) v (by omega) (by omega) (by omega)
                          have hval : Value.int .u64 ((v : Int) * 10 + ((t[k'].toNat : Int) - 48)) = Value.int .u64 ((v * 10 + (t[k'].toNat - 48) : Nat) : Int) := by congr 1; omega
                          have HST := hide hst
                          clear hst
                          by_cases he : v = 1844674407370955161
                          · have f4 : (v : Int) = 1844674407370955161 := by omega
                            have f5 : ¬ (5 : Int) < (t[k'].toNat : Int) - 48 := by omega
                            go_wp2
                            exact ⟨⟨k' + 1, v * 10 + (t[k'].toNat - 48), by omega, hle, rfl, by first | exact hval | (congr 1; omega), by simp, trivial, hide (HST.out.symm.trans hP2)⟩, by simp [RowKit.intOf]; omega⟩
                          · have f4 : ¬ (v : Int) = 1844674407370955161 := by omega
                            go_wp2
                            exact ⟨⟨k' + 1, v * 10 + (t[k'].toNat - 48), by omega, hle, rfl, by first | exact hval | (congr 1; omega), by simp, trivial, hide (HST.out.symm.trans hP2)⟩, by simp [RowKit.intOf]; omega⟩
                · exfalso
                  have e : t.data.toList.drop k' = [] := List.drop_eq_nil_of_le (by have : t.data.toList.length = t.size := by simp
                                                                                    omega)
                  have h3 := hP.out
                  rw [e] at h3
                  exact hrn.out v h3.symm
            · have hru : Hid (r = .ok u) := hide (by
                rw [HNM.out] at h2
                cases h3 : r with
                | ok x => rw [h3] at h2; simp at h2; rw [h2.2]
                | _ => rw [h3] at h2; cases h2)
              have hh : h = s.extract 0 j := by
                rw [HNM.out, hru.out] at h2
                simp at h2
                exact h2.symm
              subst hh
              clear h2 HNM
              go_loopw [8, 9, 10] (fun v8 v9 v10 wr => ∃ (k v : Nat), k ≤ T ∧ v ≤ 18446744073709551615 ∧ v8 = .bool true ∧ v9 = .int .u64 v ∧ v10 = .int .i64 k ∧ wr = w1.alloc (.cells #[.string (s.extract 0 j), .int .u64 (u : Int)] 24) ∧ Hid (Lib.parseUintM 18446744073709551615 v (t.data.toList.drop k) = r)) (fun _ _ v10 _ => T - (RowKit.intOf v10).toNat)
              case atStart => exact ⟨0, 0, by omega, by omega, rfl, rfl, rfl, rfl, hide (by rw [hrM.out]; rfl)⟩
              case round =>
                obtain ⟨k', v, hkT, hv, rfl, rfl, rfl, rfl, hP⟩ := hrel
                by_cases hkk : k' < T
                · have hkk' : (k' : Int) < (T : Int) := by omega
                  have hkt : k' < t.size := by omega
                  have hP2 := hP.out
                  rw [byte_at t k' hkt] at hP2
                  have h255 : t[k'].toNat ≤ 255 := by have := t[k'].toNat_lt; omega
                  by_cases hlo : t[k'].toNat < 48
                  · have f1 : (t[k'].toNat : Int) < 48 := by omega
                    exact absurd (hru.out.symm.trans (hP2.symm.trans (pM_bad t[k'] _ v (.inl hlo)))) (by simp)
                  · have f1 : ¬ (t[k'].toNat : Int) < 48 := by omega
                    by_cases hhi : 57 < t[k'].toNat
                    · have f2 : (57 : Int) < (t[k'].toNat : Int) := by omega
                      exact absurd (hru.out.symm.trans (hP2.symm.trans (pM_bad t[k'] _ v (.inr hhi)))) (by simp)
                    · have f2 : ¬ (57 : Int) < (t[k'].toNat : Int) := by omega
                      by_cases ho1 : 1844674407370955161 < v
                      · have f3 : (1844674407370955161 : Int) < (v : Int) := by omega
                        exact absurd (hru.out.symm.trans (hP2.symm.trans (pM_over t[k'] _ v (by omega) (by omega) (.inl ho1)))) (by simp)
                      · have f3 : ¬ (1844674407370955161 : Int) < (v : Int) := by omega
                        by_cases ho2 : v = 1844674407370955161 ∧ 5 < t[k'].toNat - 48
                        · have f4 : (v : Int) = 1844674407370955161 := by omega
                          have f5 : (5 : Int) < (t[k'].toNat : Int) - 48 := by omega
                          exact absurd (hru.out.symm.trans (hP2.symm.trans (pM_over t[k'] _ v (by omega) (by omega) (.inr ho2)))) (by simp)
                        · obtain ⟨hst, hle⟩ := pM_step t[k'] (t.data.toList.drop (k' + 1)) v (by omega) (by omega) (by omega)
                          have hval : Value.int .u64 ((v : Int) * 10 + ((t[k'].toNat : Int) - 48)) = Value.int .u64 ((v * 10 + (t[k'].toNat - 48) : Nat) : Int) := by congr 1; omega
                          have HST := hide hst
                          clear hst
                          by_cases he : v = 1844674407370955161
                          · have f4 : (v : Int) = 1844674407370955161 := by omega
                            have f5 : ¬ (5 : Int) < (t[k'].toNat : Int) - 48 := by omega
                            go_wp2
                            exact ⟨⟨k' + 1, v * 10 + (t[k'].toNat - 48), by omega, hle, rfl, by first | exact hval | (congr 1; omega), by simp, trivial, hide (HST.out.symm.trans hP2)⟩, by simp [RowKit.intOf]; omega⟩
                          · have f4 : ¬ (v : Int) = 1844674407370955161 := by omega
                            go_wp2
                            exact ⟨⟨k' + 1, v * 10 + (t[k'].toNat - 48), by omega, hle, rfl, by first | exact hval | (congr 1; omega), by simp, trivial, hide (HST.out.symm.trans hP2)⟩, by simp [RowKit.intOf]; omega⟩
                · have hkk' : ¬ (k' : Int) < (T : Int) := by omega
                  have e : t.data.toList.drop k' = [] := List.drop_eq_nil_of_le (by have : t.data.toList.length = t.size := by simp
                                                                                    omega)
                  have h3 := hP.out
                  rw [e, hru.out] at h3
                  have h4 : v = u := by simpa [Lib.parseUintM] using h3
                  subst h4
                  clear h3 e
                  have hj1 : (j : Int) ≤ (s.size : Int) := by omega
                  have hj0 : (0 : Int) ≤ (j : Int) := by omega
                  go_wp2
                  go_quiet (fail)
                  go_wp2
                  go_ret
                  exact ⟨rfl, HB.out.trans ⟨rfl, rfl, rfl, Nat.le_refl _, fun _ _ => rfl⟩⟩
  · have q1 : (4096 : Int) < s.size := by omega
    go_enter Ybaf.func3, Ybaf.ntmps3
    go_wp2
    go_ret
    exact ⟨rfl, Below.refl _ _⟩
end Go.Proofs.YbulkbzsuFmt

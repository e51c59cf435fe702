import Derived.Test.YbulkbzukStart
namespace Go.Proofs.Ybulkbzuk
open Go Go.RowKit Go.Maps Go.ChangeMaps
set_option linter.unusedVariables false
set_option linter.unusedSimpArgs false

structure Inv (w0 w : World) (B : Nat) (ban : Int) (most i : Nat) (wl wq wr : Value) (LG Q R : List ByteArray) (lv qv rv : Value) : Prop where
  st : St w0 w B ban most lv qv rv Q R [(lv, LG), (qv, Q), (rv, R), (wl, LG), (wq, Q), (wr, R)]
  l1 : LG.length ≤ i
  l2 : Q.length ≤ i
  l3 : R.length ≤ i
  nd : R.Nodup
  sub : ∀ x ∈ R, x ∈ Q
  sm : ∀ x ∈ Q, x.size ≤ 5

/-- What name leaves, in its four ways. -/
def NmP (w0 w' : World) (B : Nat) (ban : Int) (most : Nat) (a : ByteArray) (X : Int) (lv qv rv : Value) (LG Q R : List ByteArray) (rest : Rws) : Prop :=
  ((a ∈ Q ∨ Q.length = most) ∧ St w0 w' B ban most lv qv rv Q R ((lv, LG) :: (qv, Q) :: (rv, R) :: rest)) ∨
  (a ∉ Q ∧ Q.length ≠ most ∧ ((X = 1 ∧ ∃ lv', St w0 w' B ban most lv' qv rv Q R ((lv', LG ++ [a]) :: (qv, Q) :: (rv, R) :: rest)) ∨
    (X = 0 ∧ ((¬ R.length < 10 ∧ ∃ lv' qv', St w0 w' B ban most lv' qv' rv (Q ++ [a]) R ((lv', LG ++ [a]) :: (qv', Q ++ [a]) :: (rv, R) :: rest)) ∨
      (R.length < 10 ∧ ∃ lv' qv' rv', St w0 w' B ban most lv' qv' rv' (Q ++ [a]) (R ++ [a]) ((lv', LG ++ [a]) :: (qv', Q ++ [a]) :: (rv', R ++ [a]) :: rest))))))

theorem Inv.s1 {w0 w : World} {B : Nat} {ban : Int} {most i : Nat} {wl wq wr lv qv rv : Value} {LG Q R : List ByteArray} (h : Inv w0 w B ban most i wl wq wr LG Q R lv qv rv) : ∃ x c, wl = .slice x LG.length c ∧ LG.length ≤ c := row_shape (h.st.rows.own (wl, LG) (by simp))
theorem Inv.s2 {w0 w : World} {B : Nat} {ban : Int} {most i : Nat} {wl wq wr lv qv rv : Value} {LG Q R : List ByteArray} (h : Inv w0 w B ban most i wl wq wr LG Q R lv qv rv) : ∃ x c, wq = .slice x Q.length c ∧ Q.length ≤ c := row_shape (h.st.rows.own (wq, Q) (by simp))
theorem Inv.s3 {w0 w : World} {B : Nat} {ban : Int} {most i : Nat} {wl wq wr lv qv rv : Value} {LG Q R : List ByteArray} (h : Inv w0 w B ban most i wl wq wr LG Q R lv qv rv) : ∃ x c, wr = .slice x R.length c ∧ R.length ≤ c := row_shape (h.st.rows.own (wr, R) (by simp))

theorem Inv.r1 {w0 w : World} {B : Nat} {ban : Int} {most i : Nat} {wl wq wr lv qv rv : Value} {LG Q R : List ByteArray} (h : Inv w0 w B ban most i wl wq wr LG Q R lv qv rv) : Rw w (B + 9) wl LG := h.st.rows.own (wl, LG) (by simp)

theorem name_all {w0 w : World} {B : Nat} {ban : Int} {most : Nat} {lv qv rv : Value} {Q R : List ByteArray} {rest : Rws} (k : Nat) (hk : k < 16) (LG : List ByteArray) (hLG : LG.length ≤ 2000) (hQ : Q.length ≤ 2000) (hb0 : 0 ≤ ban) (hb1 : ban ≤ 65535) (h : St w0 w B ban most lv qv rv Q R ((lv, LG) :: (qv, Q) :: (rv, R) :: rest)) (hsub : ∀ x ∈ R, x ∈ Q) :
    Calls Yba.prog 7 #[.pointer (some ⟨B + 8, 0, none⟩), .string (tblAt k)] w fun e w' => e = .returned (.tuple #[]) ∧ NmP w0 w' B ban most (tblAt k) (bits BinOp.and IntKind.u16 (ban / 2 ^ k) 1) lv qv rv LG Q R rest := by
  by_cases h1 : tblAt k ∈ Q ∨ Q.length = most
  · refine (name_no k hk LG hLG hb0 hb1 h h1).mono ?_
    rintro e w' ⟨rfl, h2⟩
    exact ⟨rfl, .inl ⟨h1, h2⟩⟩
  · have hin : tblAt k ∉ Q := fun e => h1 (.inl e)
    have hm : Q.length ≠ most := fun e => h1 (.inr e)
    rcases bit_cases ban k hb0 hb1 with hx | hx
    · have hr : tblAt k ∉ R := fun e => hin (hsub _ e)
      by_cases hR : R.length < 10
      · refine (name_rep k hk LG hLG hQ hb0 hb1 h hin hm hx hr hR).mono ?_
        rintro e w' ⟨rfl, h2⟩
        exact ⟨rfl, .inr ⟨hin, hm, .inr ⟨hx, .inr ⟨hR, h2⟩⟩⟩⟩
      · refine (name_over k hk LG hLG hQ hb0 hb1 h hin hm hx hr hR).mono ?_
        rintro e w' ⟨rfl, h2⟩
        exact ⟨rfl, .inr ⟨hin, hm, .inr ⟨hx, .inl ⟨hR, h2⟩⟩⟩⟩
    · refine (name_ban k hk LG hLG hb0 hb1 h hin hm hx).mono ?_
      rintro e w' ⟨rfl, h2⟩
      exact ⟨rfl, .inr ⟨hin, hm, .inl ⟨hx, h2⟩⟩⟩

set_option maxRecDepth 100000 in
set_option maxHeartbeats 2000000 in
theorem law_walk (a0 ban : Int) (a1 : Option Addr) (len cap : Nat) (w : World) (pk : Nat → Nat) (hpk : ∀ i, i < len → ∃ x, a1 = some x ∧ w.cell? (x.add i) = some (.int .u8 (pk i)) ∧ pk i ≤ 255) (h0 : 0 ≤ a0) (h1 : a0 ≤ 255) (hb0 : 0 ≤ ban) (hb1 : ban ≤ 65535) (hl : len ≤ 1024) :
    Calls Yba.prog 3 #[.int .u8 a0, .slice a1 len cap, .int .u16 ban] w fun e w' => e = .returned (.bool true) ∧ Below w.heap.size w w' := by
  have q1 : ¬ (1024 : Int) < len := by omega
  obtain ⟨m, hm⟩ : ∃ m : Nat, (a0 % 20 : Int) = (m : Int) := ⟨(a0 % 20).toNat, by omega⟩
  have hmm := @run_makeMap Yba.prog
  have HS := hid_mk (start_St w ban m)
  obtain ⟨i0, hi, hz0, hz1, hz2⟩ := info_parts Yba.info9
  go_enter Yba.func3, Yba.ntmps3
  go_wp2_with fail
  refine (table_walk _).mono ?_
  rintro e w1 ⟨rfl, rfl⟩
  go_wp2_with fail
  refine (queue_new _ m w.heap.size).mono ?_
  rintro e w1 ⟨rfl, rfl⟩
  go_wp2_with fail
  generalize hW : World.alloc _ _ = W
  have hSt : St w W w.heap.size ban m (.slice none 0 0) (.slice none 0 0) (.slice none 0 0) [] []
    [(.slice none 0 0, []), (.slice none 0 0, []), (.slice none 0 0, []), (.slice none 0 0, []), (.slice none 0 0, []), (.slice none 0 0, [])] := by
    rw [← hW]; exact HS.out
  clear HS hW hmm
  simp only [Nat.add_assoc, Nat.reduceAdd]
  generalize hB : w.heap.size = B at hSt ⊢
  go_loopw [12, 13, 14, 38] (fun v1 v2 v3 vi wr => ∃ (i : Nat) (LG Q R : List ByteArray) (lv qv rv : Value), i ≤ len ∧ vi = .int .i64 i ∧ Inv w wr B ban m i v1 v2 v3 LG Q R lv qv rv) (fun _ _ _ vi _ => len - (RowKit.intOf vi).toNat)
  case atStart => exact ⟨0, [], [], [], _, _, _, by omega, rfl, hSt, by simp, by simp, by simp, by simp, by simp, by simp⟩
  case round =>
    obtain ⟨i, LG, Q, R, lv, qv, rv, hil, rfl, hI⟩ := hrel
    rename World => W2
    clear hSt
    by_cases hin : i < len
    · have hin' : (i : Int) < (len : Int) := by omega
      obtain ⟨x, rfl, hc, hp⟩ := hpk i hin
      -- ROUND
      have hst := hI.st
      obtain ⟨hl1, hl2, hl3, hnd0, hsub0⟩ : LG.length ≤ i ∧ Q.length ≤ i ∧ R.length ≤ i ∧ R.Nodup ∧ (∀ x ∈ R, x ∈ Q) := ⟨hI.l1, hI.l2, hI.l3, hI.nd, hI.sub⟩
      have hsm := hid_mk hI.sm
      have hnd := hid_mk hnd0
      have hsub := hid_mk hsub0
      obtain ⟨x1, c1, rfl, hc1⟩ := hI.s1
      obtain ⟨x2, c2, rfl, hc2⟩ := hI.s2
      obtain ⟨x3, c3, rfl, hc3⟩ := hI.s3
      have hcW : W2.cell? (x.add i) = some (.int .u8 (pk i : Int)) := by
        rw [hst.bel.cell (p := x.add i) (by rw [← hB]; exact World.block_lt_of_cell? w _ hc)]
        exact hc
      obtain ⟨pn, hpn⟩ : ∃ pn, Hid (pn = pk i) := ⟨_, hid_mk rfl⟩
      rw [← hpn.out] at hcW hp
      obtain ⟨k, hkk⟩ : ∃ k : Nat, (pn : Int) % 16 = (k : Int) := ⟨pn % 16, by omega⟩
      have hk : k < 16 := by omega
      have HN := hid_mk (name_all k hk LG (by omega) (by omega) hb0 hb1 hst hsub0)
      have htc := hst.tc
      have htb := hst.tb k hk
      obtain ⟨a, ha⟩ : ∃ a, Hid (a = tblAt k) := ⟨_, hid_mk rfl⟩
      rw [← ha.out] at htb HN
      clear hI hst hnd0 hsub0 hpk hc
      go_wp2_with fail
      refine HN.out.mono ?_
      rintro e W3 ⟨rfl, hN⟩
      clear HN
      rcases hN with ⟨hc', h3⟩ | ⟨hnin, hnm, hN⟩
      · rcases Classical.em (a ∈ Q) with hain | hnin
        · have hde : decide (a ∈ Q) = true := by simpa using hain
          have hwq : Rw W3 (B + 9) (.slice x2 Q.length c2) Q := h3.rows.own (.slice x2 Q.length c2, Q) (by simp)
          have hsz3 := h3.size
          have hbb3 := h3.bb
          have H3 := hid_mk h3
          clear h3
          go_wp2_with fail
          refine (has_walk a W3 hwq (by omega)).mono ?_
          rintro e w4 ⟨rfl, rfl⟩
          rw [hde]
          go_wp2
          exact ⟨⟨i + 1, LG, Q, R, lv, qv, rv, by omega, by simp, ⟨H3.out, by omega, by omega, by omega, hnd.out, hsub.out, hsm.out⟩⟩, by simp [RowKit.intOf]; omega⟩
        · have hde : decide (a ∈ Q) = false := by simpa using hnin
          have hml : (Q.length : Int) = (m : Int) := by have := hc'.resolve_left hnin; omega
          have hwq : Rw W3 (B + 9) (.slice x2 Q.length c2) Q := h3.rows.own (.slice x2 Q.length c2, Q) (by simp)
          have hsz3 := h3.size
          have hbb3 := h3.bb
          have H3 := hid_mk h3
          clear h3
          go_wp2_with fail
          refine (has_walk a W3 hwq (by omega)).mono ?_
          rintro e w4 ⟨rfl, rfl⟩
          rw [hde]
          go_wp2
          exact ⟨⟨i + 1, LG, Q, R, lv, qv, rv, by omega, by simp, ⟨H3.out, by omega, by omega, by omega, hnd.out, hsub.out, hsm.out⟩⟩, by simp [RowKit.intOf]; omega⟩
      · have hde : decide (a ∈ Q) = false := by simpa using hnin
        have hml : ¬ (Q.length : Int) = (m : Int) := by omega
        rcases hN with ⟨hx, lv', h3⟩ | ⟨hx, ⟨hR, lv', qv', h3⟩ | ⟨hR, lv', qv', rv', h3⟩⟩
        · skip
          have hwq : Rw W3 (B + 9) (.slice x2 Q.length c2) Q := h3.rows.own (.slice x2 Q.length c2, Q) (by simp)
          have hsz3 := h3.size
          have hbb3 := h3.bb
          have H3 := hid_mk h3
          clear h3
          have hwl : W3.ownsRow (B + 9) 9 1 (.slice x1 LG.length c1) LG.length (LG.map Value.string) := H3.out.rows.own (.slice x1 LG.length c1, LG) (by simp)
          go_wp2_with fail
          refine (has_walk a W3 hwq (by omega)).mono ?_
          rintro e w4 ⟨rfl, rfl⟩
          rw [hde]
          go_wp2_with (at_builtin; refine wpList_append_src _ rfl _ _ 24 24 rfl (B + 9) 9 i0 (.string ByteArray.empty) 1 16 Yba.underlying24 hi hz0 hz1 hz2 rfl _ LG.length (LG.map Value.string) rfl _ 1 [.string a] rfl ?a1 ?a2 ?a3 ?a4 ?a5 ?a6)
          case a1 => exact hwl.alloc _
          case a2 => exact Src.ofSlice _ Yba.underlying24 _ _ _ _ rfl (World.news_of_block (heap_new _ _ _ (by simp))) (strs_one [_])
          case a3 => unfold maxLen; omega
          case a4 => omega
          case a5 => simp; omega
          case a6 =>
            intro v5 w5 ho5 hg5 _ hloc5 _
            have h5 := H3.out.app (pre := [(lv', LG ++ [a]), (qv, Q), (rv, R)]) ho5 hg5 (by simpa using hloc5)
            have hbb5 := h5.bb
            have H5 := hid_mk h5
            clear h5 ho5 hg5 hloc5 H3
            go_wp2
            exact ⟨⟨i + 1, LG ++ [a], Q, R, lv', qv, rv, by omega, by simp, ⟨H5.out, by simp; omega, by omega, by omega, hnd.out, hsub.out, hsm.out⟩⟩, by simp [RowKit.intOf]; omega⟩
        · have hR' : ¬ (R.length : Int) < 10 := by omega
          have hwq : Rw W3 (B + 9) (.slice x2 Q.length c2) Q := h3.rows.own (.slice x2 Q.length c2, Q) (by simp)
          have hsz3 := h3.size
          have hbb3 := h3.bb
          have H3 := hid_mk h3
          clear h3
          have hwl : W3.ownsRow (B + 9) 9 1 (.slice x1 LG.length c1) LG.length (LG.map Value.string) := H3.out.rows.own (.slice x1 LG.length c1, LG) (by simp)
          go_wp2_with fail
          refine (has_walk a W3 hwq (by omega)).mono ?_
          rintro e w4 ⟨rfl, rfl⟩
          rw [hde]
          go_wp2_with (at_builtin; refine wpList_append_src _ rfl _ _ 24 24 rfl (B + 9) 9 i0 (.string ByteArray.empty) 1 16 Yba.underlying24 hi hz0 hz1 hz2 rfl _ LG.length (LG.map Value.string) rfl _ 1 [.string a] rfl ?a1 ?a2 ?a3 ?a4 ?a5 ?a6)
          case a1 => exact hwl.alloc _
          case a2 => exact Src.ofSlice _ Yba.underlying24 _ _ _ _ rfl (World.news_of_block (heap_new _ _ _ (by simp))) (strs_one [_])
          case a3 => unfold maxLen; omega
          case a4 => omega
          case a5 => simp; omega
          case a6 =>
            intro v5 w5 ho5 hg5 _ hloc5 _
            have h5 := H3.out.app (pre := [(lv', LG ++ [a]), (qv', Q ++ [a]), (rv, R)]) ho5 hg5 (by simpa using hloc5)
            have hbb5 := h5.bb
            have hsz5 := h5.size
            have hwq5 : w5.ownsRow (B + 9) 9 1 (.slice x2 Q.length c2) Q.length (Q.map Value.string) := h5.rows.own (.slice x2 Q.length c2, Q) (by simp)
            have H5 := hid_mk h5
            clear h5 ho5 hg5 hloc5 H3
            go_wp2_with (at_builtin; refine wpList_append_src _ rfl _ _ 24 24 rfl (B + 9) 9 i0 (.string ByteArray.empty) 1 16 Yba.underlying24 hi hz0 hz1 hz2 rfl _ Q.length (Q.map Value.string) rfl _ 1 [.string a] rfl ?a1 ?a2 ?a3 ?a4 ?a5 ?a6)
            case a1 => exact hwq5.alloc _
            case a2 => exact Src.ofSlice _ Yba.underlying24 _ _ _ _ rfl (World.news_of_block (heap_new _ _ _ (by simp))) (strs_one [_])
            case a3 => unfold maxLen; omega
            case a4 => omega
            case a5 => simp; omega
            case a6 =>
              intro v6 w6 ho6 hg6 _ hloc6 _
              have h6 := H5.out.app (pre := [(lv', LG ++ [a]), (qv', Q ++ [a]), (rv, R), (v5, LG ++ [a])]) ho6 hg6 (by simpa using hloc6)
              have H6 := hid_mk h6
              clear h6 ho6 hg6 hloc6 H5
              go_wp2
              exact ⟨⟨i + 1, LG ++ [a], Q ++ [a], R, lv', qv', rv, by omega, by simp, ⟨H6.out, by simp; omega, by simp; omega, by omega, hnd.out, fun y hy => List.mem_append.2 (.inl (hsub.out y hy)), fun y hy => by
                rcases List.mem_append.1 hy with hy | hy
                · exact hsm.out y hy
                · rw [List.mem_singleton.1 hy, ha.out]; exact tbl_small k hk⟩⟩, by simp [RowKit.intOf]; omega⟩
        · have hR' : (R.length : Int) < 10 := by omega
          have hwq : Rw W3 (B + 9) (.slice x2 Q.length c2) Q := h3.rows.own (.slice x2 Q.length c2, Q) (by simp)
          have hsz3 := h3.size
          have hbb3 := h3.bb
          have H3 := hid_mk h3
          clear h3
          have hwl : W3.ownsRow (B + 9) 9 1 (.slice x1 LG.length c1) LG.length (LG.map Value.string) := H3.out.rows.own (.slice x1 LG.length c1, LG) (by simp)
          go_wp2_with fail
          refine (has_walk a W3 hwq (by omega)).mono ?_
          rintro e w4 ⟨rfl, rfl⟩
          rw [hde]
          go_wp2_with (at_builtin; refine wpList_append_src _ rfl _ _ 24 24 rfl (B + 9) 9 i0 (.string ByteArray.empty) 1 16 Yba.underlying24 hi hz0 hz1 hz2 rfl _ LG.length (LG.map Value.string) rfl _ 1 [.string a] rfl ?a1 ?a2 ?a3 ?a4 ?a5 ?a6)
          case a1 => exact hwl.alloc _
          case a2 => exact Src.ofSlice _ Yba.underlying24 _ _ _ _ rfl (World.news_of_block (heap_new _ _ _ (by simp))) (strs_one [_])
          case a3 => unfold maxLen; omega
          case a4 => omega
          case a5 => simp; omega
          case a6 =>
            intro v5 w5 ho5 hg5 _ hloc5 _
            have h5 := H3.out.app (pre := [(lv', LG ++ [a]), (qv', Q ++ [a]), (rv', R ++ [a])]) ho5 hg5 (by simpa using hloc5)
            have hbb5 := h5.bb
            have hsz5 := h5.size
            have hwq5 : w5.ownsRow (B + 9) 9 1 (.slice x2 Q.length c2) Q.length (Q.map Value.string) := h5.rows.own (.slice x2 Q.length c2, Q) (by simp)
            have H5 := hid_mk h5
            clear h5 ho5 hg5 hloc5 H3
            go_wp2_with (at_builtin; refine wpList_append_src _ rfl _ _ 24 24 rfl (B + 9) 9 i0 (.string ByteArray.empty) 1 16 Yba.underlying24 hi hz0 hz1 hz2 rfl _ Q.length (Q.map Value.string) rfl _ 1 [.string a] rfl ?a1 ?a2 ?a3 ?a4 ?a5 ?a6)
            case a1 => exact hwq5.alloc _
            case a2 => exact Src.ofSlice _ Yba.underlying24 _ _ _ _ rfl (World.news_of_block (heap_new _ _ _ (by simp))) (strs_one [_])
            case a3 => unfold maxLen; omega
            case a4 => omega
            case a5 => simp; omega
            case a6 =>
              intro v6 w6 ho6 hg6 _ hloc6 _
              have h6 := H5.out.app (pre := [(lv', LG ++ [a]), (qv', Q ++ [a]), (rv', R ++ [a]), (v5, LG ++ [a])]) ho6 hg6 (by simpa using hloc6)
              have hsz6 := h6.size
              have hwr6 : w6.ownsRow (B + 9) 9 1 (.slice x3 R.length c3) R.length (R.map Value.string) := h6.rows.own (.slice x3 R.length c3, R) (by simp)
              have H6 := hid_mk h6
              clear h6 ho6 hg6 hloc6 H5
              go_wp2_with (at_builtin; refine wpList_append_src _ rfl _ _ 24 24 rfl (B + 9) 9 i0 (.string ByteArray.empty) 1 16 Yba.underlying24 hi hz0 hz1 hz2 rfl _ R.length (R.map Value.string) rfl _ 1 [.string a] rfl ?a1 ?a2 ?a3 ?a4 ?a5 ?a6)
              case a1 => exact hwr6.alloc _
              case a2 => exact Src.ofSlice _ Yba.underlying24 _ _ _ _ rfl (World.news_of_block (heap_new _ _ _ (by simp))) (strs_one [_])
              case a3 => unfold maxLen; omega
              case a4 => omega
              case a5 => simp; omega
              case a6 =>
                intro v7 w7 ho7 hg7 _ hloc7 _
                have h7 := H6.out.app (pre := [(lv', LG ++ [a]), (qv', Q ++ [a]), (rv', R ++ [a]), (v5, LG ++ [a]), (v6, Q ++ [a])]) ho7 hg7 (by simpa using hloc7)
                have H7 := hid_mk h7
                clear h7 ho7 hg7 hloc7 H6
                go_wp2
                exact ⟨⟨i + 1, LG ++ [a], Q ++ [a], R ++ [a], lv', qv', rv', by omega, by simp, ⟨H7.out, by simp; omega, by simp; omega, by simp; omega, List.nodup_append.2 ⟨hnd.out, by simp, fun y hy z hz => by simp at hz; subst hz; exact fun e => hnin (hsub.out _ (e ▸ hy))⟩, fun y hy => by
                  rcases List.mem_append.1 hy with hy | hy
                  · exact List.mem_append.2 (.inl (hsub.out y hy))
                  · exact List.mem_append.2 (.inr hy), fun y hy => by
                  rcases List.mem_append.1 hy with hy | hy
                  · exact hsm.out y hy
                  · rw [List.mem_singleton.1 hy, ha.out]; exact tbl_small k hk⟩⟩, by simp [RowKit.intOf]; omega⟩
    · have hin' : ¬ (i : Int) < (len : Int) := by omega
      have hst := hI.st
      have hnd := hI.nd
      have hcl := hst.cellL
      have hl1 := hI.l1
      have hl3 := hI.l3
      have hsm := hid_mk (fun y hy => hI.sm y (hI.sub y hy))
      obtain ⟨x3, c3, rfl, hc3⟩ := hI.s3
      have HE1 := hid_mk (equal_walk W2 (l := LG) (hst.rows.own (lv, LG) (by simp)) hI.r1 (by omega))
      have hS2 := hid_mk hst
      clear hst hI hpk
      go_wp2_with fail
      refine HE1.out.mono ?_
      rintro e W3 ⟨rfl, n3, hW3⟩
      have hst3 := hS2.out.drewN n3
      rw [← hW3] at hst3
      have d9 := hst3.cellR 9
      simp at d9
      have HE2 := hid_mk (equal_walk W3 (l := R) (hst3.rows.own (rv, R) (by simp)) (hst3.rows.own (.slice x3 R.length c3, R) (by simp)) (by omega))
      have hS3 := hid_mk hst3
      clear hst3 hS2 HE1 hW3
      go_wp2_with fail
      refine HE2.out.mono ?_
      rintro e W4 ⟨rfl, n4, hW4⟩
      have hst4 := hS3.out.drewN n4
      rw [← hW4] at hst4
      have hlen := fun ty => hst4.len3 hnd ty
      have d10 := hst4.cellR 10
      have d7 := hst4.cellR 7
      have d11 := hst4.cellR 11
      simp at d10 d7 d11
      have hS4 := hid_mk hst4
      clear hst4 hS3 HE2 hW4
      go_wp2
      go_loopw [19] (fun vj wr => ∃ j m : Nat, j ≤ R.length ∧ vj = .int .i64 j ∧ wr = W4.drewN m) (fun vj _ => R.length - (RowKit.intOf vj).toNat)
      case atStart => exact ⟨0, 0, by omega, rfl, rfl⟩
      case round =>
        obtain ⟨j, m', hjl, rfl, hw⟩ := hrel
        rename World => W5
        have HW := hid_mk hw
        have d7' : W5.cell? ⟨B + 8, 7, none⟩ = some (.int .i64 0) := by rw [hw]; exact d7
        have d10' : W5.cell? ⟨B + 8, 10, none⟩ = some (.map (some (B + 7))) := by rw [hw]; exact d10
        have d11' : W5.cell? ⟨B + 8, 11, none⟩ = some (.int .i64 0) := by rw [hw]; exact d11
        have hst5 := hS4.out.drewN m'
        rw [← hw] at hst5
        clear hw
        by_cases hjR : j < R.length
        · have hj' : (j : Int) < (R.length : Int) := by omega
          have hrow : Rw W5 (B + 9) (.slice x3 R.length c3) R := hst5.rows.own (.slice x3 R.length c3, R) (by simp)
          obtain ⟨_, _, he, _, hx⟩ := row_form hrow
          cases he
          obtain ⟨g, rfl⟩ := hx (by omega)
          have hcell := row_cell hrow hjR
          obtain ⟨b, hb⟩ : ∃ b, Hid (b = R[j]) := ⟨_, hid_mk rfl⟩
          rw [← hb.out] at hcell
          have hbR : b ∈ R := by rw [hb.out]; exact List.getElem_mem hjR
          have e3 := fun n => (hst5.drewN n).look3 (hsm.out b hbR)
          rw [show decide (b ∈ R) = true by simpa using hbR] at e3
          clear hst5 hrow hbR hlen
          go_wp2
          go_quiet (fail)
          go_wp2
          exact ⟨⟨j + 1, m' + nq, by omega, by simp, by rw [HW.out, World.drewN_drewN]⟩, by simp [RowKit.intOf]; omega⟩
        · have hj' : ¬ (j : Int) < (R.length : Int) := by omega
          have HB := hid_mk hst5.bel
          clear hst5 hlen
          go_wp2
          go_ret
          exact ⟨rfl, hB ▸ HB.out⟩
end Go.Proofs.Ybulkbzuk

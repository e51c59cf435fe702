import Derived.Test.YbulkbzukQ
namespace Go.Proofs.Ybulkbzuk
open Go Go.RowKit Go.Maps Go.ChangeMaps
set_option linter.unusedVariables false
set_option linter.unusedSimpArgs false

section
variable {w0 w : World} {B : Nat} {ban : Int} {most : Nat} {lv qv rv : Value} {Q R : List ByteArray} {rws : Rws}

set_option maxHeartbeats 1000000 in
theorem name_no (k : Nat) (hk : k < 16) (LG : List ByteArray) (hLG : LG.length ≤ 2000) (hb0 : 0 ≤ ban) (hb1 : ban ≤ 65535) (h : St w0 w B ban most lv qv rv Q R ((lv, LG) :: (qv, Q) :: rws)) (hin : tblAt k ∈ Q ∨ Q.length = most) :
    Calls Yba.prog 7 #[.pointer (some ⟨B + 8, 0, none⟩), .string (tblAt k)] w fun e w' => e = .returned (.tuple #[]) ∧ St w0 w' B ban most lv qv rv Q R ((lv, LG) :: (qv, Q) :: rws) := by
  have HQ : Hid (Calls Yba.prog 10 #[.pointer (some ⟨B + 6, 0, none⟩), .string (tblAt k)] w fun e w' => e = .returned (.bool false) ∧ St w0 w' B ban most lv qv rv Q R ((lv, LG) :: (qv, Q) :: rws)) := hid_mk (by
    by_cases e : tblAt k ∈ Q
    · exact queue_in k hk LG h e
    · exact queue_full k hk LG hLG hb0 hb1 h e (hin.resolve_left e))
  have c6 := h.cellR 6
  simp at c6
  clear h
  go_enter Yba.func7, Yba.ntmps7
  go_wp2_with fail
  refine HQ.out.mono ?_
  rintro e w2 ⟨rfl, h2⟩
  go_wp2
  (try simp only [Exit.inBlock, Exit.then])
  first | refine bodyPost_ret (results_none rfl _ _ _) rfl ?_ | refine bodyPost_end (results_none rfl _ _ _) rfl ?_
  exact ⟨rfl, h2⟩

set_option maxHeartbeats 1000000 in
theorem name_ban (k : Nat) (hk : k < 16) (LG : List ByteArray) (hLG : LG.length ≤ 2000) (hb0 : 0 ≤ ban) (hb1 : ban ≤ 65535) (h : St w0 w B ban most lv qv rv Q R ((lv, LG) :: (qv, Q) :: rws)) (hin : tblAt k ∉ Q) (hm : Q.length ≠ most) (hx : bits BinOp.and IntKind.u16 (ban / 2 ^ k) 1 = 1) :
    Calls Yba.prog 7 #[.pointer (some ⟨B + 8, 0, none⟩), .string (tblAt k)] w fun e w' => e = .returned (.tuple #[]) ∧ ∃ lv', St w0 w' B ban most lv' qv rv Q R ((lv', LG ++ [tblAt k]) :: (qv, Q) :: rws) := by
  have HQ := hid_mk (queue_ban k hk LG hLG hb0 hb1 h hin hm hx)
  have c6 := h.cellR 6
  simp at c6
  clear h
  go_enter Yba.func7, Yba.ntmps7
  go_wp2_with fail
  refine HQ.out.mono ?_
  rintro e w2 ⟨rfl, h2⟩
  go_wp2
  (try simp only [Exit.inBlock, Exit.then])
  first | refine bodyPost_ret (results_none rfl _ _ _) rfl ?_ | refine bodyPost_end (results_none rfl _ _ _) rfl ?_
  exact ⟨rfl, h2⟩

set_option maxHeartbeats 1000000 in
theorem name_over (k : Nat) (hk : k < 16) (LG : List ByteArray) (hLG : LG.length ≤ 2000) (hQ : Q.length ≤ 2000) (hb0 : 0 ≤ ban) (hb1 : ban ≤ 65535) (h : St w0 w B ban most lv qv rv Q R ((lv, LG) :: (qv, Q) :: (rv, R) :: rws)) (hin : tblAt k ∉ Q) (hm : Q.length ≠ most) (hx : bits BinOp.and IntKind.u16 (ban / 2 ^ k) 1 = 0)
    (hr : tblAt k ∉ R) (hR : ¬ R.length < 10) :
    Calls Yba.prog 7 #[.pointer (some ⟨B + 8, 0, none⟩), .string (tblAt k)] w fun e w' => e = .returned (.tuple #[]) ∧ ∃ lv' qv', St w0 w' B ban most lv' qv' rv (Q ++ [tblAt k]) R ((lv', LG ++ [tblAt k]) :: (qv', Q ++ [tblAt k]) :: (rv, R) :: rws) := by
  have HQ := hid_mk (queue_yes k hk LG hLG hQ hb0 hb1 h hin hm hx)
  have hs := tbl_small k hk
  obtain ⟨a, ha⟩ : ∃ a, Hid (a = tblAt k) := ⟨_, hid_mk rfl⟩
  rw [← ha.out] at hs hr HQ ⊢
  have hro : w.ownsRow (B + 9) 9 1 rv R.length (R.map Value.string) := h.rows.own (rv, R) (by simp)
  obtain ⟨rx, rc, rfl, hrc⟩ := row_shape hro
  have c6 := h.cellR 6
  simp at c6
  have hR' : ¬ (R.length : Int) < 10 := by omega
  clear h hro
  go_enter Yba.func7, Yba.ntmps7
  go_wp2_with fail
  refine HQ.out.mono ?_
  rintro e w2 ⟨rfl, lv', qv', h2⟩
  have e3 := h2.look3 hs
  rw [show decide (a ∈ R) = false by simpa using hr] at e3
  have d9 := h2.cellR 9
  have d10 := h2.cellR 10
  simp at d9 d10
  have H2 := hid_mk h2
  clear h2 HQ
  go_wp2
  (try simp only [Exit.inBlock, Exit.then])
  first | refine bodyPost_ret (results_none rfl _ _ _) rfl ?_ | refine bodyPost_end (results_none rfl _ _ _) rfl ?_
  exact ⟨rfl, _, _, H2.out⟩

set_option maxHeartbeats 1000000 in
theorem name_rep (k : Nat) (hk : k < 16) (LG : List ByteArray) (hLG : LG.length ≤ 2000) (hQ : Q.length ≤ 2000) (hb0 : 0 ≤ ban) (hb1 : ban ≤ 65535) (h : St w0 w B ban most lv qv rv Q R ((lv, LG) :: (qv, Q) :: (rv, R) :: rws)) (hin : tblAt k ∉ Q) (hm : Q.length ≠ most) (hx : bits BinOp.and IntKind.u16 (ban / 2 ^ k) 1 = 0)
    (hr : tblAt k ∉ R) (hR : R.length < 10) :
    Calls Yba.prog 7 #[.pointer (some ⟨B + 8, 0, none⟩), .string (tblAt k)] w fun e w' => e = .returned (.tuple #[]) ∧ ∃ lv' qv' rv', St w0 w' B ban most lv' qv' rv' (Q ++ [tblAt k]) (R ++ [tblAt k]) ((lv', LG ++ [tblAt k]) :: (qv', Q ++ [tblAt k]) :: (rv', R ++ [tblAt k]) :: rws) := by
  obtain ⟨i0, hi, hz0, hz1, hz2⟩ := info_parts Yba.info9
  have HQ := hid_mk (queue_yes k hk LG hLG hQ hb0 hb1 h hin hm hx)
  have hs := tbl_small k hk
  obtain ⟨a, ha⟩ : ∃ a, Hid (a = tblAt k) := ⟨_, hid_mk rfl⟩
  rw [← ha.out] at hs hr HQ ⊢
  have hro : w.ownsRow (B + 9) 9 1 rv R.length (R.map Value.string) := h.rows.own (rv, R) (by simp)
  obtain ⟨rx, rc, rfl, hrc⟩ := row_shape hro
  have c6 := h.cellR 6
  simp at c6
  have hR' : (R.length : Int) < 10 := by omega
  clear h hro
  go_enter Yba.func7, Yba.ntmps7
  go_wp2_with fail
  refine HQ.out.mono ?_
  rintro e w2 ⟨rfl, lv', qv', h2⟩
  have e3 := h2.look3 hs
  rw [show decide (a ∈ R) = false by simpa using hr] at e3
  have d9 := h2.cellR 9
  have d10 := h2.cellR 10
  simp at d9 d10
  have hsz2 := h2.size
  have hro : w2.ownsRow (B + 9) 9 1 (.slice rx R.length rc) R.length (R.map Value.string) := h2.rows.own (.slice rx R.length rc, R) (by simp)
  have H2 := hid_mk h2
  clear h2 HQ
  go_wp2_with (at_builtin; refine wpList_append_src _ rfl _ _ 24 24 rfl (B + 9) 9 i0 (.string ByteArray.empty) 1 16 Yba.underlying24 hi hz0 hz1 hz2 rfl _ R.length (R.map Value.string) rfl _ 1 [.string a] rfl ?a1 ?a2 ?a3 ?a4 ?a5 ?a6)
  case a1 => exact hro.alloc _
  case a2 => exact Src.ofSlice _ Yba.underlying24 _ _ _ _ rfl (World.news_of_block (heap_new _ _ _ (by simp))) (strs_one [_])
  case a3 => unfold maxLen; omega
  case a4 => omega
  case a5 => simp; omega
  case a6 =>
    intro v3 w3 ho3 hg3 _ hloc3 _
    have h3 := H2.out.app (pre := [(lv', LG ++ [a]), (qv', Q ++ [a])]) ho3 hg3 (by simpa using hloc3)
    obtain ⟨x3, c3, rfl, hc3⟩ := row_shape ho3
    have H4 := hid_mk (h3.setR (.slice x3 (R.length + 1) c3))
    have kl := h3.cellR 9
    simp at kl
    have fl : w3.frozen? ⟨B + 8, 9, none⟩ = false := frozen_of_row w3 (B + 8) 9 _ _ h3.pb
    have d4 := H4.out.cellR 10
    simp at d4
    have hkey : keyOf Yba.prog 9 (.string a) = some (key a) := WideMaps.keyOf_string_mk Yba.underlying9 (s := a) (by unfold maxLen; omega)
    have hm3 := H4.out.m3
    clear h3 H2 ho3 hg3 hloc3
    go_wp2_with (at_mapUpdate; refine wpList_mapUpdate_own _ rfl _ _ _ 31 rfl 9 42 law9 Yba.underlying31 nilE (B + 7) R.length _ rfl hm3 (by unfold maxLen; omega) _ _ _ rfl rfl hkey .nil [] rfl ?_; intro w5 hown5 hg5)
    (try simp only [Exit.inBlock, Exit.then])
    first | refine bodyPost_ret (results_none rfl _ _ _) rfl ?_ | refine bodyPost_end (results_none rfl _ _ _) rfl ?_
    exact ⟨rfl, lv', qv', _, H4.out.put3 a hg5 hown5⟩
end
end Go.Proofs.Ybulkbzuk

import Derived.Test.YbulkbzukMap
import Derived.StillTailTactics
namespace Go.Proofs.Ybulkbzuk
open Go Go.RowKit Go.Maps Go.ChangeMaps
set_option linter.unusedVariables false
set_option linter.unusedSimpArgs false

section
variable {w0 w : World} {B : Nat} {ban : Int} {most : Nat} {lv qv rv : Value} {Q Rm : List ByteArray} {rws : Rws}

theorem grown_drewN (w : World) (n : Nat) : w.grownBy (w.drewN n) none := ⟨rfl, rfl, rfl, Nat.le_refl _, fun _ _ _ => rfl⟩
theorem St.drewN (h : St w0 w B ban most lv qv rv Q Rm rws) (n : Nat) : St w0 (w.drewN n) B ban most lv qv rv Q Rm rws :=
  h.grow (grown_drewN w n) (fun c hc => by cases hc) (h.rows.kept (grown_drewN w n) (fun c hc => by cases hc))

set_option maxHeartbeats 1000000 in
theorem queue_in (k : Nat) (hk : k < 16) (LG : List ByteArray) (h : St w0 w B ban most lv qv rv Q Rm ((lv, LG) :: (qv, Q) :: rws)) (hin : tblAt k ∈ Q) :
    Calls Yba.prog 10 #[.pointer (some ⟨B + 6, 0, none⟩), .string (tblAt k)] w fun e w' => e = .returned (.bool false) ∧ St w0 w' B ban most lv qv rv Q Rm ((lv, LG) :: (qv, Q) :: rws) := by
  have hs := tbl_small k hk
  obtain ⟨a, ha⟩ : ∃ a, Hid (a = tblAt k) := ⟨_, hid_mk rfl⟩
  rw [← ha.out] at hs hin ⊢
  have e1 := fun n => (h.drewN n).look1 hs
  have e2 := fun n => (h.drewN n).look2 hs
  rw [show decide (a ∈ Q) = true by simpa using hin] at e2
  have c0 := h.cellQ 0
  have c1 := h.cellQ 1
  have c2 := h.cellQ 2
  have c3 := h.cellQ 3
  have c4 := h.cellQ 4
  simp at c0 c1 c2 c3 c4
  have H := hid_mk h
  clear h
  go_enter Yba.func10, Yba.ntmps10
  go_wp2
  go_quiet (fail)
  go_wp2
  go_ret
  exact ⟨rfl, H.out.drewN _⟩

set_option maxHeartbeats 1000000 in
theorem queue_full (k : Nat) (hk : k < 16) (LG : List ByteArray) (hLG : LG.length ≤ 2000) (hb0 : 0 ≤ ban) (hb1 : ban ≤ 65535) (h : St w0 w B ban most lv qv rv Q Rm ((lv, LG) :: (qv, Q) :: rws)) (hin : tblAt k ∉ Q) (hm : Q.length = most) :
    Calls Yba.prog 10 #[.pointer (some ⟨B + 6, 0, none⟩), .string (tblAt k)] w fun e w' => e = .returned (.bool false) ∧ St w0 w' B ban most lv qv rv Q Rm ((lv, LG) :: (qv, Q) :: rws) := by
  have hs := tbl_small k hk
  have HP := hid_mk (fun w' (h' : St w0 w' B ban most lv qv rv Q Rm ((lv, LG) :: (qv, Q) :: rws)) => pass_walk k hk LG hLG h' hb0 hb1)
  obtain ⟨a, ha⟩ : ∃ a, Hid (a = tblAt k) := ⟨_, hid_mk rfl⟩
  rw [← ha.out] at hs hin HP ⊢
  have e1 := fun n => (h.drewN n).look1 hs
  have e2 := fun n => (h.drewN n).look2 hs
  rw [show decide (a ∈ Q) = false by simpa using hin] at e2
  have hqo : w.ownsRow (B + 9) 9 1 qv Q.length (Q.map Value.string) := h.rows.own (qv, Q) (by simp)
  obtain ⟨qx, qc, rfl, hqc⟩ := row_shape hqo
  have c0 := h.cellQ 0
  have c1 := h.cellQ 1
  have c2 := h.cellQ 2
  have c3 := h.cellQ 3
  have c4 := h.cellQ 4
  simp at c0 c1 c2 c3 c4
  have H := hid_mk h
  clear h
  have hm' : (Q.length : Int) = (most : Int) := by omega
  go_enter Yba.func10, Yba.ntmps10
  go_wp2
  go_quiet (fail)
  go_wp2
  go_ret
  exact ⟨rfl, H.out.drewN _⟩

set_option maxHeartbeats 1000000 in
theorem queue_ban (k : Nat) (hk : k < 16) (LG : List ByteArray) (hLG : LG.length ≤ 2000) (hb0 : 0 ≤ ban) (hb1 : ban ≤ 65535) (h : St w0 w B ban most lv qv rv Q Rm ((lv, LG) :: (qv, Q) :: rws)) (hin : tblAt k ∉ Q) (hm : Q.length ≠ most) (hx : bits BinOp.and IntKind.u16 (ban / 2 ^ k) 1 = 1) :
    Calls Yba.prog 10 #[.pointer (some ⟨B + 6, 0, none⟩), .string (tblAt k)] w fun e w' => e = .returned (.bool false) ∧ ∃ lv', St w0 w' B ban most lv' qv rv Q Rm ((lv', LG ++ [tblAt k]) :: (qv, Q) :: rws) := by
  have hs := tbl_small k hk
  have HP := hid_mk (fun w' (h' : St w0 w' B ban most lv qv rv Q Rm ((lv, LG) :: (qv, Q) :: rws)) => pass_walk k hk LG hLG h' hb0 hb1)
  obtain ⟨a, ha⟩ : ∃ a, Hid (a = tblAt k) := ⟨_, hid_mk rfl⟩
  rw [← ha.out] at hs hin HP ⊢
  have e1 := h.drew.look1 hs
  have e2 := h.drew.look2 hs
  rw [show decide (a ∈ Q) = false by simpa using hin] at e2
  have hqo : w.ownsRow (B + 9) 9 1 qv Q.length (Q.map Value.string) := h.rows.own (qv, Q) (by simp)
  obtain ⟨qx, qc, rfl, hqc⟩ := row_shape hqo
  have c0 := h.cellQ 0
  have c1 := h.cellQ 1
  have c2 := h.cellQ 2
  have c3 := h.cellQ 3
  have c4 := h.cellQ 4
  simp at c0 c1 c2 c3 c4
  have H := hid_mk h
  clear h hqo
  have hm' : ¬ (Q.length : Int) = (most : Int) := by omega
  obtain ⟨X, hX⟩ : ∃ X, Hid (X = bits BinOp.and IntKind.u16 (ban / 2 ^ k) 1) := ⟨_, hid_mk rfl⟩
  rw [← hX.out] at hx HP
  go_enter Yba.func10, Yba.ntmps10
  go_wp2
  go_still_tail 32, (show Yba.prog.follows .mixedOrders = true by kernel_rfl)
  change wpList _ _ _ _ _ w.drew
  go_wp2_with fail
  refine (HP.out _ H.out.drew).mono ?_
  rintro e w2 ⟨rfl, lv', h2⟩
  subst hx
  go_wp2
  go_ret
  exact ⟨rfl, lv', h2⟩

set_option maxHeartbeats 1000000 in
theorem queue_yes (k : Nat) (hk : k < 16) (LG : List ByteArray) (hLG : LG.length ≤ 2000) (hQ : Q.length ≤ 2000) (hb0 : 0 ≤ ban) (hb1 : ban ≤ 65535) (h : St w0 w B ban most lv qv rv Q Rm ((lv, LG) :: (qv, Q) :: rws)) (hin : tblAt k ∉ Q) (hm : Q.length ≠ most) (hx : bits BinOp.and IntKind.u16 (ban / 2 ^ k) 1 = 0) :
    Calls Yba.prog 10 #[.pointer (some ⟨B + 6, 0, none⟩), .string (tblAt k)] w fun e w' => e = .returned (.bool true) ∧ ∃ lv' qv', St w0 w' B ban most lv' qv' rv (Q ++ [tblAt k]) Rm ((lv', LG ++ [tblAt k]) :: (qv', Q ++ [tblAt k]) :: rws) := by
  obtain ⟨i0, hi, hz0, hz1, hz2⟩ := info_parts Yba.info9
  have hs := tbl_small k hk
  have HP := hid_mk (fun w' (h' : St w0 w' B ban most lv qv rv Q Rm ((lv, LG) :: (qv, Q) :: rws)) => pass_walk k hk LG hLG h' hb0 hb1)
  obtain ⟨a, ha⟩ : ∃ a, Hid (a = tblAt k) := ⟨_, hid_mk rfl⟩
  rw [← ha.out] at hs hin HP ⊢
  have e1 := h.drew.look1 hs
  have e2 := h.drew.look2 hs
  rw [show decide (a ∈ Q) = false by simpa using hin] at e2
  have hqo : w.ownsRow (B + 9) 9 1 qv Q.length (Q.map Value.string) := h.rows.own (qv, Q) (by simp)
  obtain ⟨qx, qc, rfl, hqc⟩ := row_shape hqo
  have c0 := h.cellQ 0
  have c1 := h.cellQ 1
  have c2 := h.cellQ 2
  have c3 := h.cellQ 3
  have c4 := h.cellQ 4
  simp at c0 c1 c2 c3 c4
  have H := hid_mk h
  clear h hqo
  have hm' : ¬ (Q.length : Int) = (most : Int) := by omega
  obtain ⟨X, hX⟩ : ∃ X, Hid (X = bits BinOp.and IntKind.u16 (ban / 2 ^ k) 1) := ⟨_, hid_mk rfl⟩
  rw [← hX.out] at hx HP
  go_enter Yba.func10, Yba.ntmps10
  go_wp2
  go_still_tail 32, (show Yba.prog.follows .mixedOrders = true by kernel_rfl)
  change wpList _ _ _ _ _ w.drew
  go_wp2_with fail
  refine (HP.out _ H.out.drew).mono ?_
  rintro e w2 ⟨rfl, lv', h2⟩
  subst hx
  have hsz2 := h2.size
  have d3 := h2.cellQ 3
  simp at d3
  have hqo : w2.ownsRow (B + 9) 9 1 (.slice qx Q.length qc) Q.length (Q.map Value.string) := h2.rows.own (.slice qx Q.length qc, Q) (by simp)
  have H2 := hid_mk h2
  clear H HP h2 e1 e2 c0 c1 c2 c3 c4
  go_wp2_with (at_builtin; refine wpList_append_src _ rfl _ _ 24 24 rfl (B + 9) 9 i0 (.string ByteArray.empty) 1 16 Yba.underlying24 hi hz0 hz1 hz2 rfl _ Q.length (Q.map Value.string) rfl _ 1 [.string a] rfl ?a1 ?a2 ?a3 ?a4 ?a5 ?a6)
  case a1 => exact hqo.alloc _
  case a2 => exact Src.ofSlice _ Yba.underlying24 _ _ _ _ rfl (World.news_of_block (heap_new _ _ _ (by simp))) (strs_one [_])
  case a3 => unfold maxLen; omega
  case a4 => omega
  case a5 => simp; omega
  case a6 =>
    intro v3 w3 ho3 hg3 _ hloc3 _
    have h3 := H2.out.app (pre := [(lv', LG ++ [a])]) ho3 hg3 (by simpa using hloc3)
    obtain ⟨x3, c3, rfl, hc3⟩ := row_shape ho3
    have H4 := hid_mk (h3.setQ (.slice x3 (Q.length + 1) c3))
    have kl := h3.cellQ 3
    simp at kl
    have fl : w3.frozen? ⟨B + 6, 3, none⟩ = false := frozen_of_row w3 (B + 6) 3 _ _ h3.qb
    have d4 := H4.out.cellQ 4
    simp at d4
    have hkey : keyOf Yba.prog 9 (.string a) = some (key a) := WideMaps.keyOf_string_mk Yba.underlying9 (s := a) (by unfold maxLen; omega)
    have hm2 := H4.out.m2
    clear h3 H2 ho3 hg3 hloc3
    go_wp2_with (at_mapUpdate; refine wpList_mapUpdate_own _ rfl _ _ _ 45 rfl 9 4 law9 Yba.underlying45 boolE (B + 5) Q.length _ rfl hm2 (by unfold maxLen; omega) _ _ _ rfl rfl hkey tru [] rfl ?_; intro w5 hown5 hg5)
    go_ret
    exact ⟨rfl, lv', _, H4.out.put2 a hg5 hown5⟩
end
end Go.Proofs.Ybulkbzuk

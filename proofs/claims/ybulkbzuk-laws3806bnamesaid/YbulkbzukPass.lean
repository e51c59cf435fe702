import Derived.Test.YbulkbzukSt
import Derived.Deep.AppendLies
namespace Go.Proofs.Ybulkbzuk
open Go Go.RowKit Go.Maps Go.ChangeMaps
set_option linter.unusedVariables false
set_option linter.unusedSimpArgs false

theorem Yba.info9 : (Yba.prog.info? 9).map (fun i => (i.zero, i.size, i.bytes)) = some (some (.string ByteArray.empty), 1, 16) := by kernel_rfl
theorem strs_one (l : List ByteArray) : ∀ u ∈ l.map Value.string, u.oneCell' = true := by
  intro u hu
  obtain ⟨_, _, rfl⟩ := List.mem_map.1 hu
  rfl

theorem row_shape {w : World} {B n : Nat} {v : Value} {xs : List Value} (h : w.ownsRow B 9 1 v n xs) : ∃ x c, v = .slice x n c ∧ n ≤ c := by
  rcases h.2 with ⟨rfl, rfl⟩ | ⟨g, cap, cur, rfl, _, _, h1, _⟩
  · exact ⟨_, _, rfl, Nat.le_refl _⟩
  · exact ⟨_, _, rfl, h1⟩

theorem tbl_eqs : ∀ i, i < 16 → ∀ j, j < 16 → ((tblAt i).toList == (tblAt j).toList) = decide (i = j) := by decide +kernel

section
variable {w0 w : World} {B : Nat} {ban : Int} {most : Nat} {lv qv rv : Value} {Qm Rm : List ByteArray} {rws : Rws}

/-- Behind an append of one text to the j-th row. -/
theorem St.app {w1 : World} {pre post : Rws} {v v1 : Value} {l : List ByteArray} {a : ByteArray} {o : Obj} (h : St w0 w B ban most lv qv rv Qm Rm (pre ++ (v, l) :: post)) (ho : w1.ownsRow (B + 9) 9 1 v1 (l.length + 1) (l.map Value.string ++ [.string a])) (hg : (w.alloc o).grownBy w1 v.ownBlock) (hloc : v1.ownBlock = v.ownBlock ∨ v1.ownBlock = some (w.alloc o).heap.size) :
    St w0 w1 B ban most lv qv rv Qm Rm (pre ++ (v1, l ++ [a]) :: post) := by
  have h1 := h.alloc o
  refine h1.grow hg (fun c hc => ((h1.rows.own (v, l) (by simp)).lt c hc).1) (h1.rows.step hg ?_ (hloc.imp id (fun e => ⟨_, Nat.le_refl _, e⟩)))
  unfold Rw
  rw [List.map_append, List.length_append]
  exact ho

set_option maxHeartbeats 1000000 in
theorem pass_walk (k : Nat) (hk : k < 16) (LG : List ByteArray) (hLG : LG.length ≤ 2000) (h : St w0 w B ban most lv qv rv Qm Rm ((lv, LG) :: rws)) (hb0 : 0 ≤ ban) (hb1 : ban ≤ 65535) :
    Calls Yba.prog 5 #[.string (tblAt k), .pointer (some ⟨B + 3, 0, none⟩), .pointer (some ⟨B + 2, 0, none⟩), .pointer (some ⟨B, 0, none⟩)] w fun e w' => e = .returned (.bool (bits BinOp.and IntKind.u16 (ban / 2 ^ k) 1 == 1)) ∧ ∃ lv', St w0 w' B ban most lv' qv rv Qm Rm ((lv', LG ++ [tblAt k]) :: rws) := by
  obtain ⟨i0, hi, hz0, hz1, hz2⟩ := info_parts Yba.info9
  have hsz := h.size
  have hcl := h.cellL
  have hown : w.ownsRow (B + 9) 9 1 lv LG.length (LG.map Value.string) := h.rows.own (lv, LG) (by simp)
  have H := hid_mk h
  have hnil : ∀ w' : World, (w'.heap.size = w'.heap.size) := fun _ => rfl
  clear h hnil
  obtain ⟨a, ha⟩ : ∃ a, Hid (a = tblAt k) := ⟨_, hid_mk rfl⟩
  rw [← ha.out]
  go_enter Yba.func5, Yba.ntmps5
  go_wp2_with (at_builtin; refine wpList_append_src _ rfl _ _ 24 24 rfl (B + 9) 9 i0 (.string ByteArray.empty) 1 16 Yba.underlying24 hi hz0 hz1 hz2 rfl _ LG.length (LG.map Value.string) rfl _ 1 [.string a] rfl ?a1 ?a2 ?a3 ?a4 ?a5 ?a6)
  case a1 => exact hown.alloc _
  case a2 => exact Src.ofSlice _ Yba.underlying24 _ _ _ _ rfl (World.news_of_block (heap_new _ _ _ (by simp))) (strs_one [_])
  case a3 => unfold maxLen; omega
  case a4 => omega
  case a5 => simp; omega
  case a6 =>
    intro v1 w1 ho1 hg1 _ hloc1 _
    have h1 := H.out.app (pre := []) ho1 hg1 (by simpa using hloc1)
    obtain ⟨x1, c1, rfl, hc1⟩ := row_shape ho1
    have H2 := hid_mk (h1.setL (.slice x1 (LG.length + 1) c1))
    have kl := h1.cellL
    have fl : w1.frozen? ⟨B + 3, 0, none⟩ = false := frozen_of_row w1 (B + 3) 0 _ _ h1.lc
    clear h1 H ho1 hg1 hloc1
    go_wp2
    obtain ⟨w2, hw2⟩ : ∃ x, x = w1.setCell ⟨B + 3, 0, none⟩ (.slice x1 (LG.length + 1) c1) := ⟨_, rfl⟩
    rw [← hw2] at H2 ⊢
    clear hw2 kl fl hown hcl hi hz0 hz1 hz2
    have hbb := H2.out.bb
    have htc := H2.out.tc
    have htb := H2.out.tb
    go_loopw [6] (fun vi wr => ∃ i : Nat, i ≤ k ∧ vi = .int .i64 i ∧ wr = w2) (fun vi _ => 16 - (RowKit.intOf vi).toNat)
    case atStart => exact ⟨0, by omega, rfl, rfl⟩
    case round =>
      obtain ⟨i, hik, rfl, rfl⟩ := hrel
      have hi16 : i < 16 := by omega
      have hci := htb i hi16
      by_cases e : i = k
      · subst e
        have hd : ((tblAt i).toList == a.toList) = true := by rw [ha.out, tbl_eqs i hi16 i hi16]; simp
        go_wp2
        go_ret
        exact ⟨rfl, _, H2.out⟩
      · have hd : ((tblAt i).toList == a.toList) = false := by rw [ha.out, tbl_eqs i hi16 k hk]; simp [e]
        go_wp2
        exact ⟨⟨i + 1, by omega, by simp, trivial⟩, by simp [RowKit.intOf]; omega⟩
end
end Go.Proofs.Ybulkbzuk

import Derived.Test.YbulkbzsgRows
import Derived.Test.YbulkbzsgLaw
import Derived.ProofKit
import Derived.Below
import Derived.Deep.AppendLies
import Derived.Deep.QuietTactic
import Derived.BigQuiet
namespace Go.Proofs.Ybulkbzsg
open Go.RowKit

theorem Yba.info5 : (Yba.prog.info? 5).map (fun i => (i.zero, i.size, i.bytes)) = some (some (.int .u8 0), 1, 1) := by kernel_rfl

set_option maxHeartbeats 400000 in
theorem udp_nil (w : World) : Calls Yba.prog 10 #[.pointer none] w fun e w' => e = .returned (.int .i64 512) ∧ w' = w := by
  go_enter Yba.func10, Yba.ntmps10
  go_wp2
  go_ret
  exact ⟨rfl, rfl⟩

theorem ret_int {k : IntKind} {a b : Int} (h : a = b) : Ending.returned (.int k a) = .returned (.int k b) := by rw [h]

def limOf (n : Int) : Int := if n < 512 then 512 else n

set_option maxHeartbeats 400000 in
theorem udp_some (b : Nat) (n : Int) (w : World) (h0 : 0 ≤ n) (h1 : n ≤ 65535) (hc : w.cell? ⟨b, 0, none⟩ = some (.int .u16 n)) :
    Calls Yba.prog 10 #[.pointer (some ⟨b, 0, none⟩)] w fun e w' => e = .returned (.int .i64 (limOf n)) ∧ w' = w := by
  by_cases h : n < 512
  · have e : Hid (512 = limOf n) := (if_pos h).symm
    go_enter Yba.func10, Yba.ntmps10
    go_wp2
    go_ret
    exact ⟨ret_int e.out, rfl⟩
  · have e : Hid (n = limOf n) := (if_neg h).symm
    go_enter Yba.func10, Yba.ntmps10
    go_wp2
    go_ret
    exact ⟨ret_int e.out, rfl⟩

set_option maxHeartbeats 400000 in
theorem au16 (base : Nat) (v : Value) (n : Nat) (xs : List Value) (x : Int) (w : World) (h0 : 0 ≤ x) (h1 : x ≤ 65535) (hn : n ≤ 1000000000) (hown : w.ownsRow base 5 1 v n xs) (hb : base ≤ w.heap.size) :
    Calls Yba.prog 13 #[.agg #[], v, .int .u16 x] w fun e w' => ∃ v', e = .returned v' ∧ w'.ownsRow base 5 1 v' (n + 2) (xs ++ [.int .u8 (x / 256), .int .u8 (x % 256)]) ∧
      w.grownBy w' v.ownBlock ∧ (∀ g, v'.ownBlock = some g → v.ownBlock = some g ∨ w.heap.size ≤ g) := by
  obtain ⟨i0, hi, hz0, hz1, hz2⟩ := info_parts Yba.info5
  go_enter Yba.func13, Yba.ntmps13
  go_wp2_with (at_builtin; refine wpList_append_src _ rfl _ _ 38 38 rfl base 5 i0 (.int .u8 0) 1 1 Yba.underlying38 hi hz0 hz1 hz2 rfl _ n xs rfl _ 2 [.int .u8 (x / 256), .int .u8 (x % 256)] rfl ?a1 ?a2 ?a3 ?a4 ?a5 ?a6)
  case a1 => exact (hown.alloc _).alloc _
  case a2 => exact Src.ofSlice _ Yba.underlying38 _ _ _ _ rfl (World.news_of_block (heap_new _ _ _ (by simp))) (ints_one .u8 [_, _])
  case a3 => unfold maxLen; omega
  case a4 => omega
  case a5 => simp; omega
  case a6 =>
    intro v' w1 hown' hg hnil hat
    go_wp2
    go_ret
    refine ⟨v', rfl, hown', ?_, ?_⟩
    · exact ((World.grownBy_alloc _ _ _).trans (World.grownBy_alloc _ _ _)).trans hg
    · intro g hgg
      rcases hat with h | h
      · left; rw [← h]; exact hgg
      · right; rw [h] at hgg; simp at hgg; omega
end Go.Proofs.Ybulkbzsg

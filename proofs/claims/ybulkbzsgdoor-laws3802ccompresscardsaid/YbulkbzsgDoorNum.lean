import Derived.Test.YbulkbzsgDoorName
namespace Go.Proofs.YbulkbzsgDoor
open Go.RowKit
set_option linter.unusedVariables false
set_option linter.unusedSimpArgs false

def be32 (x : Int) : List Int := [x / 16777216, x / 65536 % 256, x / 256 % 256, x % 256]

set_option maxHeartbeats 400000 in
theorem au32 (B : Nat) (w0 : World) (row : Option Nat) (v0 : Value) (n0 : Nat) (v : Value) (xs : List Int) (x : Int) (w : World) (hb : Buf B w0 row v0 n0 v xs w) (hrow : RowOk row v0 n0) (hx0 : 0 ≤ x) (hx1 : x ≤ 4294967295) (hl : xs.length ≤ 2000000) (hB : B ≤ w.heap.size) :
    Calls Ybad.prog 12 #[.agg #[], v, .int .u32 x] w fun e w' => ∃ v', e = .returned v' ∧ Buf B w0 row v0 n0 v' (xs ++ be32 x) w' ∧ w.grownBy w' v.ownBlock ∧ (∀ g, v'.ownBlock = some g → v.ownBlock = some g ∨ w.heap.size ≤ g) := by
  obtain ⟨i0, hi, hz0, hz1, hz2⟩ := info_parts Ybad.info5
  have hown := hb.own
  go_enter Ybad.func12, Ybad.ntmps12
  go_wp2_with (at_builtin; refine wpList_append_src _ rfl _ _ 22 22 rfl B 5 i0 (.int .u8 0) 1 1 Ybad.underlying22 hi hz0 hz1 hz2 rfl _ xs.length (xs.map (Value.int .u8)) rfl _ 4 ((be32 x).map (Value.int .u8)) rfl ?a1 ?a2 ?a3 ?a4 ?a5 ?a6)
  case a1 => exact (hown.alloc _).alloc _
  case a2 => exact Src.ofSlice _ Ybad.underlying22 _ _ _ _ rfl (World.news_of_block (heap_new _ _ _ (by simp))) (ints_one .u8 _)
  case a3 => unfold maxLen; omega
  case a4 => omega
  case a5 => first | omega | (simp; omega)
  case a6 =>
    intro v' w1 ho1 hg1 _ hat1 hfull1
    have hg0 := (World.grownBy_alloc w (.cells #[] 46) none).trans (World.grownBy_alloc _ (.cells #[.int .u8 (x / 16777216), .int .u8 (x / 65536 % 256), .int .u8 (x / 256 % 256), .int .u8 (x % 256)] 5) none)
    have hbuf1 : Buf B w0 row v0 n0 v' (xs ++ be32 x) w1 := hb.step hrow (by simp [be32]) hg0 ho1 hg1 (by simpa using hat1) (by simpa [be32] using hfull1)
    go_wp2
    go_ret
    refine ⟨v', rfl, hbuf1, ((World.grownBy_alloc _ _ _).trans (World.grownBy_alloc _ _ _)).trans hg1, fun g hg => ?_⟩
    rcases hat1 with h | h
    · exact .inl (by rw [← h]; exact hg)
    · right; rw [h] at hg; simp at hg; omega

set_option maxHeartbeats 400000 in
theorem u32 (B : Nat) (w0 : World) (row : Option Nat) (v0 : Value) (n0 : Nat) (v : Value) (xs : List Int) (x : Int) (w : World) (hb : Buf B w0 row v0 n0 v xs w) (hrow : RowOk row v0 n0) (hx0 : 0 ≤ x) (hx1 : x ≤ 4294967295) (hl : xs.length ≤ 2000000) (hB : B ≤ w.heap.size) :
    Calls Ybad.prog 13 #[v, .int .u32 x] w fun e w' => ∃ v', e = .returned v' ∧ Buf B w0 row v0 n0 v' (xs ++ be32 x) w' ∧ w.grownBy w' v.ownBlock ∧ (∀ g, v'.ownBlock = some g → v.ownBlock = some g ∨ w.heap.size ≤ g) := by
  obtain ⟨i0, hi, hz0, hz1, hz2⟩ := info_parts Ybad.info5
  have hown := hb.own
  go_enter Ybad.func13, Ybad.ntmps13
  go_wp2_with (at_builtin; refine wpList_append_src _ rfl _ _ 22 22 rfl B 5 i0 (.int .u8 0) 1 1 Ybad.underlying22 hi hz0 hz1 hz2 rfl _ xs.length (xs.map (Value.int .u8)) rfl _ 4 ((be32 x).map (Value.int .u8)) rfl ?a1 ?a2 ?a3 ?a4 ?a5 ?a6)
  case a1 => exact hown.alloc _
  case a2 => exact Src.ofSlice _ Ybad.underlying22 _ _ _ _ rfl (World.news_of_block (heap_new _ _ _ (by simp))) (ints_one .u8 _)
  case a3 => unfold maxLen; omega
  case a4 => omega
  case a5 => first | omega | (simp; omega)
  case a6 =>
    intro v' w1 ho1 hg1 _ hat1 hfull1
    have hbuf1 : Buf B w0 row v0 n0 v' (xs ++ be32 x) w1 := hb.step hrow (by simp [be32]) (World.grownBy_alloc _ _ _) ho1 hg1 (by simpa using hat1) (by simpa [be32] using hfull1)
    go_wp2
    go_ret
    refine ⟨v', rfl, hbuf1, (World.grownBy_alloc _ _ _).trans hg1, fun g hg => ?_⟩
    rcases hat1 with h | h
    · exact .inl (by rw [← h]; exact hg)
    · right; rw [h] at hg; simp at hg; omega

def tailB (a b c d e : Int) : List Int := be32 a ++ be32 b ++ be32 c ++ be32 d ++ be32 e

set_option maxHeartbeats 400000 in
theorem tail_walk (B : Nat) (w0 : World) (row : Option Nat) (v0 : Value) (n0 : Nat) (v : Value) (xs : List Int) (a b c d e : Int) (w : World) (hb : Buf B w0 row v0 n0 v xs w) (hrow : RowOk row v0 n0)
    (ha : 0 ≤ a ∧ a ≤ 4294967295) (hbb : 0 ≤ b ∧ b ≤ 4294967295) (hc : 0 ≤ c ∧ c ≤ 4294967295) (hd : 0 ≤ d ∧ d ≤ 4294967295) (he : 0 ≤ e ∧ e ≤ 4294967295) (hl : xs.length ≤ 1500000) (hB : B ≤ w0.heap.size) :
    Calls Ybad.prog 8 #[v, .int .u32 a, .int .u32 b, .int .u32 c, .int .u32 d, .int .u32 e] w fun en w' => ∃ v', en = .returned v' ∧ Buf B w0 row v0 n0 v' (xs ++ tailB a b c d e) w' := by
  have l4 : ∀ x, (be32 x).length = 4 := fun x => rfl
  have s0 := hb.grown.size
  go_enter Ybad.func8, Ybad.ntmps8
  go_wp2_with fail
  refine (u32 B w0 row v0 n0 v xs a _ hb hrow ha.1 ha.2 (by omega) (by omega)).mono ?_
  rintro e' w1 ⟨v1, rfl, hb1, _⟩
  have s1 := hb1.grown.size
  go_wp2_with fail
  refine (u32 B w0 row v0 n0 v1 _ b _ hb1 hrow hbb.1 hbb.2 (by simp only [List.length_append, l4]; omega) (by omega)).mono ?_
  rintro e' w2 ⟨v2, rfl, hb2, _⟩
  have s2 := hb2.grown.size
  go_wp2_with fail
  refine (u32 B w0 row v0 n0 v2 _ c _ hb2 hrow hc.1 hc.2 (by simp only [List.length_append, l4]; omega) (by omega)).mono ?_
  rintro e' w3 ⟨v3, rfl, hb3, _⟩
  have s3 := hb3.grown.size
  go_wp2_with fail
  refine (u32 B w0 row v0 n0 v3 _ d _ hb3 hrow hd.1 hd.2 (by simp only [List.length_append, l4]; omega) (by omega)).mono ?_
  rintro e' w4 ⟨v4, rfl, hb4, _⟩
  have s4 := hb4.grown.size
  go_wp2_with fail
  refine (u32 B w0 row v0 n0 v4 _ e _ hb4 hrow he.1 he.2 (by simp only [List.length_append, l4]; omega) (by omega)).mono ?_
  rintro e' w5 ⟨v5, rfl, hb5, _⟩
  go_wp2
  go_ret
  refine ⟨v5, rfl, ?_⟩
  have e : xs ++ tailB a b c d e = xs ++ be32 a ++ be32 b ++ be32 c ++ be32 d ++ be32 e := by simp [tailB]
  rw [e]
  exact hb5
end Go.Proofs.YbulkbzsgDoor

import Derived.Test.YbulkbzsgDoorData
namespace Go.Proofs.YbulkbzsgDoor
open Go.RowKit
set_option linter.unusedVariables false
set_option linter.unusedSimpArgs false

theorem below_of_grown {B : Nat} {w w' : World} {row : Option Nat} (h : w.grownBy w' row) (hB : B ≤ w.heap.size) (hr : ∀ g, row = some g → B ≤ g) : ∀ b, b < B → w'.heap[b]? = w.heap[b]? :=
  fun b hb => h.block b (by omega) (fun e => by have := hr b e.symm; omega)

theorem grown_drewN {w w' : World} {row : Option Nat} (h : w.grownBy w' row) (n : Nat) : w.grownBy (w'.drewN n) row := ⟨h.os, h.tape, h.output, h.size, h.block⟩

set_option maxHeartbeats 1000000 in
set_option maxRecDepth 100000 in
theorem an_walk (B : Nat) (v0 : Value) (xs0 : List Int) (row : Option Nat) (na : Option Addr) (nc : Nat) (ss : List ByteArray) (E1 E2 E3 : Value) (w : World) (hE : Errs E1 E2 E3 w) (hB : 4 ≤ B) (hBw : B ≤ w.heap.size)
    (hss : StrsIn B w na ss) (hlen : ss.length ≤ 1024) (hxl : xs0.length ≤ 1000000) (hown : w.ownsRow B 5 1 v0 xs0.length (xs0.map (Value.int .u8))) (hrow : RowOk row v0 xs0.length) :
    Calls Ybad.prog 14 #[v0, .slice na ss.length nc] w fun e w' => ∃ v', e = .returned (.tuple #[v', errV E1 E2 E3 (nameErr 1 ss)]) ∧ w.grownBy w' row ∧
      (nameErr 1 ss = 0 → Buf B w row v0 xs0.length v' (xs0 ++ (wireB ss ++ [0])) w') := by
  obtain ⟨i0, hi, hz0, hz1, hz2⟩ := info_parts Ybad.info5
  have hrowB : ∀ g, row = some g → B ≤ g := fun g hg => by
    rcases hrow with h | ⟨h, _⟩
    · exact (hown.lt g (by rw [← h, hg])).1
    · rw [h] at hg; cases hg
  go_enter Ybad.func14, Ybad.ntmps14
  go_wp2
  go_loopw [0, 6, 11] (fun v sz i wr => ∃ k : Nat, k ≤ ss.length ∧ i = .int .i64 k ∧ sz = .int .i64 (sizeTo ss k) ∧ sizeTo ss k ≤ 255 ∧ nameErr 1 ss = nameErr (sizeTo ss k) (ss.drop k) ∧
      Buf B w row v0 xs0.length v (xs0 ++ wireB (ss.take k)) wr)
    (fun _ _ i _ => ss.length - (intOf i).toNat)
  case atStart => exact ⟨0, Nat.zero_le _, rfl, rfl, by simp [sizeTo, wireB], rfl, by simpa [wireB] using hown, World.grownBy.refl _ _, .inl ⟨rfl, by simp [wireB]⟩⟩
  case round =>
    obtain ⟨k, hk, rfl, rfl, hsz, hne, hbuf⟩ := hrel
    have hbB := below_of_grown hbuf.grown hBw hrowB
    have HNE := hid_mk hne
    have hwr := hbuf.grown.size
    clear hne
    by_cases hlt : k < ss.length
    · obtain ⟨s, hs⟩ : ∃ s, ss[k]? = some s := ⟨ss[k], by simp [hlt]⟩
      obtain ⟨b, off, rfl, hb, hc⟩ := hss k s hs
      have c0 : wr.cell? ⟨b, off + k, none⟩ = some (.string s) := (World.cell?_of_block (w := w) (a := ⟨b, off + k, none⟩) (hbB b hb)).trans hc
      have HD := hid_mk (nameErr_drop ss k s (sizeTo ss k) hs)
      have HW := hid_mk (wireB_succ ss k s hs)
      have HS := hid_mk (sizeTo_succ ss k s hs)
      have hwl : (wireB (ss.take k)).length ≤ 255 := by unfold sizeTo at hsz; omega
      clear hs hc
      by_cases h1 : s.size = 0
      · have e1 : wr.cell? ⟨1, 0, none⟩ = some E1 := (World.cell?_of_block (w := w) (a := ⟨1, 0, none⟩) (hbB 1 (by omega))).trans hE.e1
        have HN : Hid (nameErr 1 ss = 1) := by rw [HNE.out, HD.out, if_pos h1]; exact hid_mk rfl
        have h1' : (s.size == 0) = true := by simpa using h1
        clear HNE HD
        go_wp2
        go_quiet (fail)
        go_wp2
        go_ret2
        refine ⟨_, by rw [HN.out]; rfl, ?_, fun h => by rw [HN.out] at h; cases h⟩
        exact grown_drewN hbuf.grown nq
      · by_cases h2 : 63 < s.size
        · have e1 : wr.cell? ⟨2, 0, none⟩ = some E2 := (World.cell?_of_block (w := w) (a := ⟨2, 0, none⟩) (hbB 2 (by omega))).trans hE.e2
          have HN : Hid (nameErr 1 ss = 2) := by rw [HNE.out, HD.out, if_neg h1, if_pos h2]; exact hid_mk rfl
          clear HNE HD
          go_wp2
          go_quiet (fail)
          go_wp2
          go_ret2
          exact ⟨_, by rw [HN.out]; rfl, grown_drewN hbuf.grown nq, fun h => by rw [HN.out] at h; cases h⟩
        · by_cases h3 : 255 < sizeTo ss k + (1 + s.size)
          · have e1 : wr.cell? ⟨3, 0, none⟩ = some E3 := (World.cell?_of_block (w := w) (a := ⟨3, 0, none⟩) (hbB 3 (by omega))).trans hE.e3
            have HN : Hid (nameErr 1 ss = 3) := by rw [HNE.out, HD.out, if_neg h1, if_neg h2, if_pos h3]; exact hid_mk rfl
            have h3' : (255 : Int) < (sizeTo ss k : Int) + (1 + (s.size : Int)) := by omega
            clear HNE HD
            go_wp2
            go_quiet (fail)
            go_wp2
            go_ret2
            exact ⟨_, by rw [HN.out]; rfl, grown_drewN hbuf.grown nq, fun h => by rw [HN.out] at h; cases h⟩
          · have HN : Hid (nameErr 1 ss = nameErr (sizeTo ss (k + 1)) (ss.drop (k + 1))) := by rw [HNE.out, HD.out, if_neg h1, if_neg h2, if_neg h3, HS.out]; exact hid_mk rfl
            have h3' : ¬ (255 : Int) < (sizeTo ss k : Int) + (1 + (s.size : Int)) := by omega
            have hwrB : B ≤ wr.heap.size := by omega
            clear HNE HD
            obtain ⟨X, hX⟩ : ∃ X, Hid (X = xs0 ++ wireB (ss.take k)) := ⟨_, rfl⟩
            have hXl : X.length ≤ 1000255 := by rw [hX.out, List.length_append]; omega
            rw [← hX.out] at hbuf
            go_wp2_with (at_builtin; refine wpList_append_src _ rfl _ _ 22 22 rfl B 5 i0 (.int .u8 0) 1 1 Ybad.underlying22 hi hz0 hz1 hz2 rfl _ X.length (X.map (Value.int .u8)) rfl _ 1 [.int .u8 (s.size : Int)] rfl ?a1 ?a2 ?a3 ?a4 ?a5 ?a6)
            case a1 => exact hbuf.own.alloc _
            case a2 => exact Src.ofSlice _ Ybad.underlying22 _ _ _ _ rfl (World.news_of_block (heap_new _ _ _ (by simp))) (ints_one .u8 [_])
            case a3 => unfold maxLen; omega
            case a4 => omega
            case a5 => first | omega | (simp; omega)
            case a6 =>
              intro v1 w1 ho1 hg1 _ hat1 hfull1
              have hbuf1 : Buf B w row v0 xs0.length v1 (X ++ [(s.size : Int)]) w1 := hbuf.step hrow (by simp) (World.grownBy_alloc _ _ _) ho1 hg1 (by simpa using hat1) (by simpa using hfull1)
              have hs1 := hbuf1.grown.size
              have hXs : (X ++ [(s.size : Int)]).length = X.length + 1 := by simp
              obtain ⟨Y, hY⟩ : ∃ Y, Hid (Y = X ++ [(s.size : Int)]) := ⟨_, rfl⟩
              rw [← hY.out] at hbuf1 hXs
              have hYl : Y.length ≤ 1000256 := by omega
              clear hbuf ho1 hg1 hat1 hfull1 hXs
              go_wp2_with (at_builtin; refine wpList_append_src _ rfl _ _ 22 9 rfl B 5 i0 (.int .u8 0) 1 1 Ybad.underlying22 hi hz0 hz1 hz2 rfl _ Y.length (Y.map (Value.int .u8)) rfl _ s.size (byteCells s) rfl hbuf1.own (Src.ofString _ Ybad.underlying9 s) ?b3 ?b4 ?b5 ?b6)
              case b3 => unfold maxLen; omega
              case b4 => omega
              case b5 => omega
              case b6 =>
                intro v2 w2 ho2 hg2 _ hat2 hfull2
                have hbuf2 : Buf B w row v0 xs0.length v2 (Y ++ bytesI s) w2 := hbuf1.step hrow (by rw [bytesI_len]; omega) (World.grownBy.refl _ _) (by rw [bytesI_len, ← byteCells_eq]; exact ho2) hg2 hat2 (by rw [bytesI_len]; exact hfull2)
                have HB : Hid (Buf B w row v0 xs0.length v2 (xs0 ++ wireB (ss.take (k + 1))) w2) := by
                  rw [hY.out, hX.out] at hbuf2
                  rw [HW.out]
                  refine hid_mk ?_
                  have e : xs0 ++ (wireB (ss.take k) ++ ((s.size : Int) :: bytesI s)) = xs0 ++ wireB (ss.take k) ++ [(s.size : Int)] ++ bytesI s := by simp
                  rw [e]
                  exact hbuf2
                clear hbuf2 hbuf1 ho2 hg2 hat2 hfull2
                go_wp2
                go_roundw
                case rel =>
                  have e1 : (Value.int .i64 ((sizeTo ss k : Int) + (1 + (s.size : Int)))) = .int .i64 ((sizeTo ss (k + 1) : Nat) : Int) := by
                    rw [HS.out]; exact congrArg (Value.int .i64) (by omega)
                  exact ⟨k + 1, by omega, by go_num, e1, by rw [HS.out]; omega, HN.out, HB.out⟩
                case measure => simp [intOf]; omega
    · obtain rfl : k = ss.length := by omega
      have HN : Hid (nameErr 1 ss = 0) := by rw [HNE.out, List.drop_length]; exact hid_mk rfl
      rw [List.take_length] at hbuf
      have hwl : (wireB ss).length ≤ 255 := by unfold sizeTo at hsz; rw [List.take_length] at hsz; omega
      have hwrB : B ≤ wr.heap.size := by omega
      obtain ⟨X, hX⟩ : ∃ X, Hid (X = xs0 ++ wireB ss) := ⟨_, rfl⟩
      have hXl : X.length ≤ 1000255 := by rw [hX.out, List.length_append]; omega
      rw [← hX.out] at hbuf
      clear HNE
      go_wp2_with (at_builtin; refine wpList_append_src _ rfl _ _ 22 22 rfl B 5 i0 (.int .u8 0) 1 1 Ybad.underlying22 hi hz0 hz1 hz2 rfl _ X.length (X.map (Value.int .u8)) rfl _ 1 [.int .u8 0] rfl ?d1 ?d2 ?d3 ?d4 ?d5 ?d6)
      case d1 => exact hbuf.own.alloc _
      case d2 => exact Src.ofSlice _ Ybad.underlying22 _ _ _ _ rfl (World.news_of_block (heap_new _ _ _ (by simp))) (ints_one .u8 [_])
      case d3 => unfold maxLen; omega
      case d4 => omega
      case d5 => first | omega | (simp; omega)
      case d6 =>
        intro v1 w1 ho1 hg1 _ hat1 hfull1
        have hbuf1 : Buf B w row v0 xs0.length v1 (X ++ [0]) w1 := hbuf.step hrow (by simp) (World.grownBy_alloc _ _ _) ho1 hg1 (by simpa using hat1) (by simpa using hfull1)
        go_wp2
        go_ret2
        refine ⟨v1, by rw [HN.out]; rfl, hbuf1.grown, fun _ => ?_⟩
        rw [hX.out] at hbuf1
        simpa using hbuf1
set_option maxHeartbeats 1000000 in
set_option maxRecDepth 100000 in
theorem wire_walk (B : Nat) (na : Option Addr) (nc : Nat) (ss : List ByteArray) (E1 E2 E3 : Value) (w : World) (hE : Errs E1 E2 E3 w) (hB : 4 ≤ B) (hBw : B ≤ w.heap.size)
    (hss : StrsIn B w na ss) (hlen : ss.length ≤ 1024) :
    Calls Ybad.prog 7 #[.slice na ss.length nc] w fun e w' => ∃ v', e = .returned (.tuple #[v', errV E1 E2 E3 (nameErr 1 ss)]) ∧ w.grownBy w' none ∧
      (nameErr 1 ss = 0 → w'.ownsRow B 5 1 v' (wireB ss ++ [0]).length ((wireB ss ++ [0]).map (Value.int .u8))) := by
  obtain ⟨i0, hi, hz0, hz1, hz2⟩ := info_parts Ybad.info5
  obtain ⟨xs0, hxs0⟩ : ∃ x : List Int, x = [] := ⟨_, rfl⟩
  have hxl : xs0.length ≤ 1000000 := by rw [hxs0]; simp
  obtain ⟨row, hrw⟩ : ∃ x : Option Nat, x = none := ⟨_, rfl⟩
  obtain ⟨v0, hv0⟩ : ∃ x : Value, x = .slice none 0 0 := ⟨_, rfl⟩
  have hrow : RowOk row v0 xs0.length := .inl (by rw [hrw, hv0]; rfl)
  have hrowB : ∀ g, row = some g → B ≤ g := fun g hg => by rw [hrw] at hg; cases hg
  have HX := hid_mk hxs0
  have HV := hid_mk hv0
  have HRW := hid_mk hrw
  have hown : w.ownsRow B 5 1 (.slice none 0 0) 0 [] := World.ownsRow_nil _ _ _ _
  clear hxs0 hrw hv0
  go_enter Ybad.func7, Ybad.ntmps7
  go_wp2
  go_loopw [5, 4, 10] (fun v sz i wr => ∃ k : Nat, k ≤ ss.length ∧ i = .int .i64 k ∧ sz = .int .i64 (sizeTo ss k) ∧ sizeTo ss k ≤ 255 ∧ nameErr 1 ss = nameErr (sizeTo ss k) (ss.drop k) ∧
      Buf B w row v0 xs0.length v (xs0 ++ wireB (ss.take k)) wr)
    (fun _ _ i _ => ss.length - (intOf i).toNat)
  case atStart => exact ⟨0, Nat.zero_le _, rfl, rfl, by simp [sizeTo, wireB], rfl, by rw [HX.out]; simpa [wireB] using hown, World.grownBy.refl _ _, .inl ⟨HV.out.symm, by simp [wireB]⟩⟩
  case round =>
    obtain ⟨k, hk, rfl, rfl, hsz, hne, hbuf⟩ := hrel
    have hbB := below_of_grown hbuf.grown hBw hrowB
    have HNE := hid_mk hne
    have hwr := hbuf.grown.size
    clear hne
    by_cases hlt : k < ss.length
    · obtain ⟨s, hs⟩ : ∃ s, ss[k]? = some s := ⟨ss[k], by simp [hlt]⟩
      obtain ⟨b, off, rfl, hb, hc⟩ := hss k s hs
      have c0 : wr.cell? ⟨b, off + k, none⟩ = some (.string s) := (World.cell?_of_block (w := w) (a := ⟨b, off + k, none⟩) (hbB b hb)).trans hc
      have HD := hid_mk (nameErr_drop ss k s (sizeTo ss k) hs)
      have HW := hid_mk (wireB_succ ss k s hs)
      have HS := hid_mk (sizeTo_succ ss k s hs)
      have hwl : (wireB (ss.take k)).length ≤ 255 := by unfold sizeTo at hsz; omega
      clear hs hc
      by_cases h1 : s.size = 0
      · have e1 : wr.cell? ⟨1, 0, none⟩ = some E1 := (World.cell?_of_block (w := w) (a := ⟨1, 0, none⟩) (hbB 1 (by omega))).trans hE.e1
        have HN : Hid (nameErr 1 ss = 1) := by rw [HNE.out, HD.out, if_pos h1]; exact hid_mk rfl
        have h1' : (s.size == 0) = true := by simpa using h1
        clear HNE HD
        go_wp2
        go_quiet (fail)
        go_wp2
        go_ret2
        exact ⟨_, by rw [HN.out]; rfl, by rw [← HRW.out]; exact grown_drewN hbuf.grown nq, fun h => by rw [HN.out] at h; cases h⟩
      · by_cases h2 : 63 < s.size
        · have e1 : wr.cell? ⟨2, 0, none⟩ = some E2 := (World.cell?_of_block (w := w) (a := ⟨2, 0, none⟩) (hbB 2 (by omega))).trans hE.e2
          have HN : Hid (nameErr 1 ss = 2) := by rw [HNE.out, HD.out, if_neg h1, if_pos h2]; exact hid_mk rfl
          clear HNE HD
          go_wp2
          go_quiet (fail)
          go_wp2
          go_ret2
          exact ⟨_, by rw [HN.out]; rfl, by rw [← HRW.out]; exact grown_drewN hbuf.grown nq, fun h => by rw [HN.out] at h; cases h⟩
        · by_cases h3 : 255 < sizeTo ss k + (1 + s.size)
          · have e1 : wr.cell? ⟨3, 0, none⟩ = some E3 := (World.cell?_of_block (w := w) (a := ⟨3, 0, none⟩) (hbB 3 (by omega))).trans hE.e3
            have HN : Hid (nameErr 1 ss = 3) := by rw [HNE.out, HD.out, if_neg h1, if_neg h2, if_pos h3]; exact hid_mk rfl
            have h3' : (255 : Int) < (sizeTo ss k : Int) + (1 + (s.size : Int)) := by omega
            clear HNE HD
            go_wp2
            go_quiet (fail)
            go_wp2
            go_ret2
            exact ⟨_, by rw [HN.out]; rfl, by rw [← HRW.out]; exact grown_drewN hbuf.grown nq, fun h => by rw [HN.out] at h; cases h⟩
          · have HN : Hid (nameErr 1 ss = nameErr (sizeTo ss (k + 1)) (ss.drop (k + 1))) := by rw [HNE.out, HD.out, if_neg h1, if_neg h2, if_neg h3, HS.out]; exact hid_mk rfl
            have h3' : ¬ (255 : Int) < (sizeTo ss k : Int) + (1 + (s.size : Int)) := by omega
            have hwrB : B ≤ wr.heap.size := by omega
            clear HNE HD
            obtain ⟨X, hX⟩ : ∃ X, Hid (X = xs0 ++ wireB (ss.take k)) := ⟨_, rfl⟩
            have hXl : X.length ≤ 1000255 := by rw [hX.out, List.length_append]; omega
            rw [← hX.out] at hbuf
            go_wp2_with (at_builtin; refine wpList_append_src _ rfl _ _ 22 22 rfl B 5 i0 (.int .u8 0) 1 1 Ybad.underlying22 hi hz0 hz1 hz2 rfl _ X.length (X.map (Value.int .u8)) rfl _ 1 [.int .u8 (s.size : Int)] rfl ?a1 ?a2 ?a3 ?a4 ?a5 ?a6)
            case a1 => exact hbuf.own.alloc _
            case a2 => exact Src.ofSlice _ Ybad.underlying22 _ _ _ _ rfl (World.news_of_block (heap_new _ _ _ (by simp))) (ints_one .u8 [_])
            case a3 => unfold maxLen; omega
            case a4 => omega
            case a5 => first | omega | (simp; omega)
            case a6 =>
              intro v1 w1 ho1 hg1 _ hat1 hfull1
              have hbuf1 : Buf B w row v0 xs0.length v1 (X ++ [(s.size : Int)]) w1 := hbuf.step hrow (by simp) (World.grownBy_alloc _ _ _) ho1 hg1 (by simpa using hat1) (by simpa using hfull1)
              have hs1 := hbuf1.grown.size
              have hXs : (X ++ [(s.size : Int)]).length = X.length + 1 := by simp
              obtain ⟨Y, hY⟩ : ∃ Y, Hid (Y = X ++ [(s.size : Int)]) := ⟨_, rfl⟩
              rw [← hY.out] at hbuf1 hXs
              have hYl : Y.length ≤ 1000256 := by omega
              clear hbuf ho1 hg1 hat1 hfull1 hXs
              go_wp2_with (at_builtin; refine wpList_append_src _ rfl _ _ 22 9 rfl B 5 i0 (.int .u8 0) 1 1 Ybad.underlying22 hi hz0 hz1 hz2 rfl _ Y.length (Y.map (Value.int .u8)) rfl _ s.size (byteCells s) rfl hbuf1.own (Src.ofString _ Ybad.underlying9 s) ?b3 ?b4 ?b5 ?b6)
              case b3 => unfold maxLen; omega
              case b4 => omega
              case b5 => omega
              case b6 =>
                intro v2 w2 ho2 hg2 _ hat2 hfull2
                have hbuf2 : Buf B w row v0 xs0.length v2 (Y ++ bytesI s) w2 := hbuf1.step hrow (by rw [bytesI_len]; omega) (World.grownBy.refl _ _) (by rw [bytesI_len, ← byteCells_eq]; exact ho2) hg2 hat2 (by rw [bytesI_len]; exact hfull2)
                have HB : Hid (Buf B w row v0 xs0.length v2 (xs0 ++ wireB (ss.take (k + 1))) w2) := by
                  rw [hY.out, hX.out] at hbuf2
                  rw [HW.out]
                  refine hid_mk ?_
                  have e : xs0 ++ (wireB (ss.take k) ++ ((s.size : Int) :: bytesI s)) = xs0 ++ wireB (ss.take k) ++ [(s.size : Int)] ++ bytesI s := by simp
                  rw [e]
                  exact hbuf2
                clear hbuf2 hbuf1 ho2 hg2 hat2 hfull2
                go_wp2
                go_roundw
                case rel =>
                  have e1 : (Value.int .i64 ((sizeTo ss k : Int) + (1 + (s.size : Int)))) = .int .i64 ((sizeTo ss (k + 1) : Nat) : Int) := by
                    rw [HS.out]; exact congrArg (Value.int .i64) (by omega)
                  exact ⟨k + 1, by omega, by go_num, e1, by rw [HS.out]; omega, HN.out, HB.out⟩
                case measure => simp [intOf]; omega
    · obtain rfl : k = ss.length := by omega
      have HN : Hid (nameErr 1 ss = 0) := by rw [HNE.out, List.drop_length]; exact hid_mk rfl
      rw [List.take_length] at hbuf
      have hwl : (wireB ss).length ≤ 255 := by unfold sizeTo at hsz; rw [List.take_length] at hsz; omega
      have hwrB : B ≤ wr.heap.size := by omega
      obtain ⟨X, hX⟩ : ∃ X, Hid (X = xs0 ++ wireB ss) := ⟨_, rfl⟩
      have hXl : X.length ≤ 1000255 := by rw [hX.out, List.length_append]; omega
      rw [← hX.out] at hbuf
      clear HNE
      go_wp2_with (at_builtin; refine wpList_append_src _ rfl _ _ 22 22 rfl B 5 i0 (.int .u8 0) 1 1 Ybad.underlying22 hi hz0 hz1 hz2 rfl _ X.length (X.map (Value.int .u8)) rfl _ 1 [.int .u8 0] rfl ?d1 ?d2 ?d3 ?d4 ?d5 ?d6)
      case d1 => exact hbuf.own.alloc _
      case d2 => exact Src.ofSlice _ Ybad.underlying22 _ _ _ _ rfl (World.news_of_block (heap_new _ _ _ (by simp))) (ints_one .u8 [_])
      case d3 => unfold maxLen; omega
      case d4 => omega
      case d5 => first | omega | (simp; omega)
      case d6 =>
        intro v1 w1 ho1 hg1 _ hat1 hfull1
        have hbuf1 : Buf B w row v0 xs0.length v1 (X ++ [0]) w1 := hbuf.step hrow (by simp) (World.grownBy_alloc _ _ _) ho1 hg1 (by simpa using hat1) (by simpa using hfull1)
        go_wp2
        go_ret2
        refine ⟨v1, by rw [HN.out]; rfl, by rw [← HRW.out]; exact hbuf1.grown, fun _ => ?_⟩
        have := hbuf1.own
        rw [hX.out, HX.out] at this
        simpa using this
end Go.Proofs.YbulkbzsgDoor

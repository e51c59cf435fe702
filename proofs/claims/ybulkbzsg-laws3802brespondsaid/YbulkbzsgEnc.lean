import Derived.Test.YbulkbzsgData
namespace Go.Proofs.Ybulkbzsg
open Go.RowKit

theorem enc_step {w : World} {B : Nat} {v : Value} {L : List Int} {os : List (Int × List Int)} {k : Nat} {code : Int} {d : List Int} (hL : L = encs (os.take k)) (ho : os[k]? = some (code, d))
    (h : w.ownsRow B 5 1 v (L.length + 4 + d.length) (L.map (Value.int .u8) ++ .int .u8 (code / 256) :: .int .u8 (code % 256) :: .int .u8 ((d.length : Int) / 256) :: .int .u8 ((d.length : Int) % 256) :: d.map (Value.int .u8))) :
    w.ownsRow B 5 1 v (encs (os.take (k + 1))).length ((encs (os.take (k + 1))).map (Value.int .u8)) := by
  rw [encs_succ os k _ ho, ← hL]
  have e1 : (L ++ encO (code, d)).length = L.length + 4 + d.length := by rw [List.length_append, encO_len]; simp only; omega
  have e2 : (L ++ encO (code, d)).map (Value.int .u8) = L.map (Value.int .u8) ++ .int .u8 (code / 256) :: .int .u8 (code % 256) :: .int .u8 ((d.length : Int) / 256) :: .int .u8 ((d.length : Int) % 256) :: d.map (Value.int .u8) := by simp [encO]
  rw [e1, e2]
  exact h

theorem ownsRow_lower {w : World} {B B' : Nat} {e : TypeId} {sz : Nat} {v : Value} {n : Nat} {xs : List Value} (h : w.ownsRow B e sz v n xs) (hB : B' ≤ B) : w.ownsRow B' e sz v n xs := by
  obtain ⟨h1, h2⟩ := h
  refine ⟨h1, ?_⟩
  rcases h2 with h2 | ⟨g, cap, cur, a, b, c⟩
  · exact .inl h2
  · exact .inr ⟨g, cap, cur, a, by omega, c⟩

theorem ownsRow_cut {w : World} {B : Nat} {e : TypeId} {g n cap m : Nat} {xs : List Value} (h : w.ownsRow B e 1 (.slice (some ⟨g, 0, none⟩) n cap) n xs) (hm : m ≤ n) :
    w.ownsRow B e 1 (.slice (some ⟨g, 0, none⟩) m cap) m (xs.take m) := by
  obtain ⟨h1, h2⟩ := h
  rcases h2 with ⟨h2, _⟩ | ⟨g', cap', cur, hv, a, b, c, d, e1, f⟩
  · cases h2
  · cases hv
    refine ⟨by rw [List.length_take]; omega, .inr ⟨g, cap, cur, rfl, a, b, by omega, d, e1, ?_⟩⟩
    rw [← f, List.take_take]
    congr 1
    omega

theorem ownsRow_shape {w : World} {B : Nat} {e : TypeId} {sz : Nat} {v : Value} {n : Nat} {xs : List Value} (h : w.ownsRow B e sz v n xs) : ∃ a c, v = .slice a n c := by
  rcases h.2 with ⟨rfl, rfl⟩ | ⟨g, cap, cur, rfl, _⟩
  · exact ⟨_, _, rfl⟩
  · exact ⟨_, _, rfl⟩

set_option maxHeartbeats 1000000 in
set_option maxRecDepth 100000 in
theorem enc_walk (r : Rec) (w : World) (hr : RecWf r) (ho : OptsIn w r.oa r.os) (E : List Int) (hE : Hid (E = encOf r)) :
    Calls Yba.prog 8 #[.agg r.cells] w fun e w' => ∃ v, e = .returned v ∧ w'.ownsRow w.heap.size 5 1 v E.length (E.map (Value.int .u8)) ∧ Below w.heap.size w w' := by
  obtain ⟨i0, hi, hz0, hz1, hz2⟩ := info_parts Yba.info5
  obtain ⟨sec, lab, has, udp, ext, ver, dO, z, oa, oc, os, mode⟩ := r
  obtain ⟨_, _, _, _, _, _, hmode, hlen, hopts⟩ := hr
  simp only [Rec.cells] at *
  go_enter Yba.func8, Yba.ntmps8
  go_wp2
  go_loopw [3, 10] (fun v i wr => ∃ k : Nat, k ≤ os.length ∧ i = .int .i64 k ∧ wr.ownsRow (w.heap.size + 1) 5 1 v (encs (os.take k)).length ((encs (os.take k)).map (Value.int .u8)) ∧
      Below (w.heap.size + 1) (w.alloc (.cells #[.int .u8 sec, .int .u8 lab, .bool has, .int .u16 udp, .int .u8 ext, .int .u8 ver, .bool dO, .int .u16 z, .slice oa os.length oc, .int .u8 mode] 34)) wr)
    (fun _ i _ => os.length - (intOf i).toNat)
  case atStart => exact ⟨0, Nat.zero_le _, rfl, World.ownsRow_nil _ _ _ _, Below.refl _ _⟩
  case round =>
    obtain ⟨k, hk, rfl, hown, hbel⟩ := hrel
    have hsz := hbel.size
    simp at hsz
    by_cases hlt : k < os.length
    · obtain ⟨o, hoo⟩ : ∃ o, os[k]? = some o := ⟨os[k], by simp [hlt]⟩
      obtain ⟨b, off, dv, rfl, hc0, hc1, hdv⟩ := ho k o hoo
      have hwf := hopts o (List.mem_of_getElem? hoo)
      obtain ⟨code, data⟩ := o
      obtain ⟨hw0, hw1, hw2, hw3⟩ := hwf; clear hw3
      simp only at hw0 hw1 hw2 hc0 hdv
      have hbl : b < w.heap.size := World.block_lt_of_cell? w _ hc0
      have cr8 : wr.cell? ⟨w.heap.size, 8, none⟩ = some (.slice (some ⟨b, off, none⟩) os.length oc) := (hbel.cell (by simp)).trans (by simp)
      have c0 : wr.cell? ⟨b, off + k * 2, none⟩ = some (.int .u16 code) := (hbel.cell (p := ⟨b, off + k * 2, none⟩) (by simp; omega)).trans (by rw [World.cell?_alloc_past _ _ _ (by simpa using hbl)]; exact hc0)
      have c1 : wr.cell? ⟨b, off + k * 2 + 1, none⟩ = some dv := (hbel.cell (p := ⟨b, off + k * 2 + 1, none⟩) (by simp; omega)).trans (by rw [World.cell?_alloc_past _ _ _ (by simpa using hbl)]; exact hc1)
      have hdr : BytesIn wr dv data := hdv.mono (fun b' hb' => (hbel.block b' (by omega)).trans (Below.heap_alloc _ _ _ hb'))
      have hdv0 := hdv
      obtain ⟨da, dc, rfl, hdn, hds⟩ := hdv
      have hell := encs_len_le (os.take k) (fun o ho => hopts o (List.mem_of_mem_take ho))
      simp only [List.length_take] at hell
      go_wp2_with (at_builtin; refine wpList_append_src _ rfl _ _ 38 38 rfl (w.heap.size + 1) 5 i0 (.int .u8 0) 1 1 Yba.underlying38 hi hz0 hz1 hz2 rfl _ (encs (os.take k)).length ((encs (os.take k)).map (Value.int .u8)) rfl _ 4 [.int .u8 (code / 256), .int .u8 (code % 256), .int .u8 ((data.length : Int) / 256), .int .u8 ((data.length : Int) % 256)] rfl ?a1 ?a2 ?a3 ?a4 ?a5 ?a6)
      case a1 => exact (hown.alloc _).alloc _
      case a2 => exact Src.ofSlice _ Yba.underlying38 _ _ _ _ rfl (World.news_of_block (heap_new _ _ _ (by simp))) (ints_one .u8 [_, _, _, _])
      case a3 => unfold maxLen; omega
      case a4 => omega
      case a5 => simp; omega
      case a6 =>
        intro v1 w1 ho1 hg1 _ hat1
        have hb1 : Below (w.heap.size + 1) (w.alloc (.cells #[.int .u8 sec, .int .u8 lab, .bool has, .int .u16 udp, .int .u8 ext, .int .u8 ver, .bool dO, .int .u16 z, .slice (some ⟨b, off, none⟩) os.length oc, .int .u8 mode] 34)) w1 :=
          ((hbel.alloc (by omega) _).alloc (by simp; omega) _).grown hg1 (by simp; omega) (fun g hg => (hown.lt g hg).1)
        have hne : some wr.heap.size ≠ u3.ownBlock := fun h => by have := (hown.lt _ h.symm).2; omega
        have d1 : w1.cell? ⟨wr.heap.size, 1, none⟩ = some (.slice da data.length dc) := (hg1.cell_far _ (by simp; omega) hne).trans (by simp)
        have hdr1 : BytesIn w1 (.slice da data.length dc) data := hdv0.mono (fun b' hb' => (hb1.block b' (by omega)).trans (Below.heap_alloc _ _ _ hb'))
        have hs1 := hb1.size
        simp at hs1
        clear c0 c1 hc0 hc1 hds hdn hdr cr8
        go_wp2_with (at_builtin; refine wpList_append_src _ rfl _ _ 38 38 rfl (w.heap.size + 1) 5 i0 (.int .u8 0) 1 1 Yba.underlying38 hi hz0 hz1 hz2 rfl _ _ _ rfl _ _ _ rfl ho1 hdr1.src ?b3 ?b4 ?b5 ?b6)
        case b3 => unfold maxLen; omega
        case b4 => omega
        case b5 => omega
        case b6 =>
          intro v2 w2 ho2 hg2 _ hat2
          have hb2 := hb1.grown hg2 (by omega) (fun g hg => (ho1.lt g hg).1)
          have R := enc_step (os := os) (k := k) rfl hoo ho2
          clear ho2 hg2 hg1 ho1 hdr1 d1 hown
          go_wp2
          go_roundw
          case rel => exact ⟨k + 1, by omega, by go_num, R, hb2⟩
          case measure => simp [intOf]; omega
    · obtain rfl : k = os.length := by omega
      rw [List.take_length] at hown
      have cm : wr.cell? ⟨w.heap.size, 9, none⟩ = some (.int .u8 mode) := (hbel.cell (by simp)).trans (by simp)
      have hell := encs_len_le os hopts
      have hB0 : Below w.heap.size w wr := ((Below.refl _ _).alloc (Nat.le_refl _) _).trans (hbel.mono (by omega))
      by_cases hm1 : mode % 3 = 1
      · have he : encOf ⟨sec, lab, has, udp, ext, ver, dO, z, oa, oc, os, mode⟩ = encs os ++ [0] := if_pos hm1
        have hm1' : (mode % 3 == 1) = true := by rw [hm1]; rfl
        have HE : Hid (E = encs os ++ [0]) := hE.out.trans he
        clear he hm1
        go_wp2_with (at_builtin; refine wpList_append_src _ rfl _ _ 38 38 rfl (w.heap.size + 1) 5 i0 (.int .u8 0) 1 1 Yba.underlying38 hi hz0 hz1 hz2 rfl _ (encs os).length ((encs os).map (Value.int .u8)) rfl _ 1 [.int .u8 0] rfl ?d1 ?d2 ?d3 ?d4 ?d5 ?d6)
        case d1 => exact hown.alloc _
        case d2 => exact Src.ofSlice _ Yba.underlying38 _ _ _ _ rfl (World.news_of_block (heap_new _ _ _ (by simp))) (ints_one .u8 [_])
        case d3 => unfold maxLen; omega
        case d4 => omega
        case d5 => simp; omega
        case d6 =>
          intro v1 w1 ho1 hg1 _ hat1
          have hb1 := (hB0.alloc (by omega) _).grown hg1 (by simp; omega) (fun g hg => by have := (hown.lt g hg).1; omega)
          go_wp2
          go_ret
          exact ⟨v1, rfl, by rw [HE.out]; simpa using ownsRow_lower ho1 (Nat.le_succ _), hb1⟩
      · have hm1' : (mode % 3 == 1) = false := by simpa using hm1
        by_cases hm2 : mode % 3 = 2
        · have he : encOf ⟨sec, lab, has, udp, ext, ver, dO, z, oa, oc, os, mode⟩ = (encs os).take ((encs os).length - 1) := by
            simp only [encOf, if_neg hm1, if_pos hm2]
          have hm2' : (mode % 3 == 2) = true := by rw [hm2]; rfl
          have HE : Hid (E = (encs os).take ((encs os).length - 1)) := hE.out.trans he
          clear he hm1 hm2
          by_cases hp : 0 < (encs os).length
          · obtain ⟨g, cap, rfl, _, _⟩ := hown.form hp
            have hcap : (encs os).length ≤ cap := by
              rcases hown.2 with ⟨h, _⟩ | ⟨_, _, _, h, _, _, h', _⟩
              · cases h
              · cases h; exact h'
            have R := ownsRow_cut hown (m := (encs os).length - 1) (by omega)
            go_wp2
            go_ret
            refine ⟨_, rfl, ?_, hB0⟩
            rw [HE.out, List.map_take, List.length_take, Nat.min_eq_left (Nat.sub_le _ _)]
            exact ownsRow_lower R (Nat.le_succ _)
          · have h0 : encs os = [] := List.eq_nil_of_length_eq_zero (by omega)
            obtain ⟨a3, c3, rfl⟩ := ownsRow_shape hown
            have HE' : Hid (E = encs os) := by rw [Hid, HE.out, h0]; rfl
            have h0' : (encs os).length = 0 := by omega
            clear h0 HE
            go_wp2
            go_ret
            refine ⟨_, rfl, ?_, hB0⟩
            rw [HE'.out]
            exact ownsRow_lower hown (Nat.le_succ _)
        · have he : encOf ⟨sec, lab, has, udp, ext, ver, dO, z, oa, oc, os, mode⟩ = encs os := by
            simp only [encOf, if_neg hm1, if_neg hm2]
          have hm2' : (mode % 3 == 2) = false := by simpa using hm2
          have HE : Hid (E = encs os) := hE.out.trans he
          clear he hm1 hm2
          go_wp2
          go_ret
          exact ⟨_, rfl, by rw [HE.out]; exact ownsRow_lower hown (Nat.le_succ _), hB0⟩
end Go.Proofs.Ybulkbzsg

import Derived.Test.YbulkbzsgBuildA
import Derived.Deep.RegionLaw
namespace Go.Proofs.Ybulkbzsg
open Go.RowKit
set_option linter.unusedVariables false
set_option linter.unusedSimpArgs false
attribute [local go_sem ↓] Go.wp_at_zero Go.wp_at_succ

set_option maxHeartbeats 1000000 in
set_option maxRecDepth 100000 in
theorem build_walk (a : Option Addr) (cap : Nat) (rs : List Rec) (w : World) (hrs : ∀ r ∈ rs, RecWf r) (hlen : rs.length ≤ 1024) (hG : RecsArg w a rs) :
    Calls Yba.prog 6 #[.slice a rs.length cap] w fun e w' => ∃ M G c, e = .returned (.pointer (some ⟨M, 0, none⟩)) ∧ Below w.heap.size w w' ∧ w'.cell? ⟨M, 16, none⟩ = some (.slice (some ⟨G, 0, none⟩) rs.length c) ∧ RecsIn w.heap.size w' G rs := by
  obtain ⟨i0, hi, hz0, hz1, hz2⟩ := info_parts Yba.info57
  go_enter Yba.func6, Yba.ntmps6
  go_wp2_with (at_make; refine wpList_make_own _ rfl _ _ 45 rfl w.heap.size 57 i0 _ 9 Yba.underlying45 hi hz0 hz1 _ _ _ rs.length rfl rfl (by omega) ?b2 ?b3 (Nat.le_refl _) ?_)
  case b2 => rw [hz2]; omega
  case b3 => unfold maxLen; omega
  intro w1 ho1 hg1
  obtain ⟨i9, hi9, hz90, hz91, hz92⟩ := info_parts Yba.info9
  obtain ⟨i5, hi5, hz50, hz51, hz52⟩ := info_parts Yba.info5
  obtain ⟨i59, hi59, hz590, hz591, hz592⟩ := info_parts Yba.info59
  have hGM : w.heap.size < w1.heap.size := (ho1.lt w.heap.size rfl).2
  obtain ⟨M, hM⟩ : ∃ M, M = w1.heap.size := ⟨_, rfl⟩
  have hb1 : Below w.heap.size w w1 := (Below.refl _ _).grown hg1 (Nat.le_refl _) (fun k hk => by cases hk)
  have hR0 : BuildRel w.heap.size M w rs 0 [] (w1.alloc (.cells (msgCells w.heap.size 0 rs.length) 47)) := by
    refine ⟨rfl, heap_new _ _ _ hM.symm, ho1.alloc _, fun i r cs _ h => (by simp at h), hb1.alloc (by omega) _, by omega, rfl⟩
  go_wp2
  rw [← hM]
  go_loopw [19] (fun i wr => ∃ k css, k ≤ rs.length ∧ i = .int .i64 (k : Nat) ∧ BuildRel w.heap.size M w rs k css wr)
    (fun i _ => rs.length - (intOf i).toNat)
  case atStart => exact ⟨0, [], Nat.zero_le _, rfl, hR0⟩
  case round =>
    clear hR0 hb1 hM hg1 ho1
    obtain ⟨k, css, hk, rfl, hR⟩ := hrel
    obtain ⟨wo, hwo⟩ : ∃ x, x = wr := ⟨_, rfl⟩
    subst hwo
    by_cases hlt : k < rs.length
    · obtain ⟨r, hr⟩ : ∃ r, rs[k]? = some r := ⟨rs[k], by simp [hlt]⟩
      obtain ⟨b, off, rfl, hcells, hopts⟩ := hG k r hr
      have hwf := hrs r (List.mem_of_getElem? hr)
      have hbl : b < w.heap.size := World.block_lt_of_cell? w _ (hcells 0 _ rfl)
      have hcr : ∀ j u, r.cells[j]? = some u → wo.cell? ⟨b, off + k * 10 + j, none⟩ = some u := fun j u hj => (hR.below.cell (p := ⟨b, off + k * 10 + j, none⟩) hbl).trans (hcells j u hj)
      have hopr : OptsIn wo r.oa r.os := hopts.mono (fun b' hb' => hR.below.block b' hb')
      have Hr := hid_mk hr
      clear hcells hopts hr
      obtain ⟨sec, lab, has, udp, ext, ver, dO, z, oa, oc, os, mode⟩ := r
      have c0 : wo.cell? ⟨b, off + k * 10, none⟩ = some (.int .u8 sec) := hcr 0 _ rfl
      have c1 : wo.cell? ⟨b, off + k * 10 + 1, none⟩ = some (.int .u8 lab) := hcr 1 _ rfl
      have c2 : wo.cell? ⟨b, off + k * 10 + 2, none⟩ = some (.bool has) := hcr 2 _ rfl
      have c3 : wo.cell? ⟨b, off + k * 10 + 3, none⟩ = some (.int .u16 udp) := hcr 3 _ rfl
      have c4 : wo.cell? ⟨b, off + k * 10 + 4, none⟩ = some (.int .u8 ext) := hcr 4 _ rfl
      have c5 : wo.cell? ⟨b, off + k * 10 + 5, none⟩ = some (.int .u8 ver) := hcr 5 _ rfl
      have c6 : wo.cell? ⟨b, off + k * 10 + 6, none⟩ = some (.bool dO) := hcr 6 _ rfl
      have c7 : wo.cell? ⟨b, off + k * 10 + 7, none⟩ = some (.int .u16 z) := hcr 7 _ rfl
      have c8 : wo.cell? ⟨b, off + k * 10 + 8, none⟩ = some (.slice oa os.length oc) := hcr 8 _ rfl
      have c9 : wo.cell? ⟨b, off + k * 10 + 9, none⟩ = some (.int .u8 mode) := hcr 9 _ rfl
      simp only at hopr
      have hlab : 0 ≤ lab ∧ lab ≤ 255 := hwf.lab
      have hsec : 0 ≤ sec ∧ sec ≤ 255 := hwf.sec
      have holen : os.length ≤ 1024 := hwf.len
      have hMH : M < wo.heap.size := heap_lt hR.msg
      clear hcr
      go_wp2
      go_loopw [6, 7] (fun nv i w2 => ∃ q : Nat, q ≤ (lab % 3).toNat ∧ i = .int .i64 q ∧ w2.ownsRow (wo.heap.size + 1) 9 1 nv q (List.replicate q (.string ⟨#[97]⟩)) ∧
          Below (wo.heap.size + 1) (wo.alloc (.cells #[.int .u8 sec, .int .u8 lab, .bool has, .int .u16 udp, .int .u8 ext, .int .u8 ver, .bool dO, .int .u16 z, .slice oa os.length oc, .int .u8 mode] 34)) w2)
        (fun _ i _ => (lab % 3).toNat - (intOf i).toNat)
      case atStart => exact ⟨0, Nat.zero_le _, rfl, World.ownsRow_nil _ _ _ _, Below.refl _ _⟩
      case round =>
        clear c0 c1 c2 c3 c4 c5 c6 c7 c8 c9
        obtain ⟨q, hq, rfl, hnown, hnb⟩ := hrel
        have hns := hnb.size
        simp at hns
        have d1 : wr.cell? ⟨wo.heap.size, 1, none⟩ = some (.int .u8 lab) := (hnb.cell (by simp)).trans (by simp)
        by_cases hql : q < (lab % 3).toNat
        · have hql' : (q : Int) < lab % 3 := by omega
          go_wp2_with (at_builtin; refine wpList_append_src _ rfl _ _ 50 50 rfl (wo.heap.size + 1) 9 i9 _ 1 16 Yba.underlying50 hi9 hz90 hz91 hz92 rfl _ q (List.replicate q (.string ⟨#[97]⟩)) rfl _ 1 [.string ⟨#[97]⟩] rfl ?n1 ?n2 ?n3 ?n4 ?n5 ?n6)
          case n1 => exact hnown.alloc _
          case n2 => exact Src.ofSlice _ Yba.underlying50 _ _ _ _ rfl (World.news_of_block (heap_new _ _ _ (by simp))) (by intro u hu; simp at hu; subst hu; rfl)
          case n3 => unfold maxLen; omega
          case n4 => omega
          case n5 => simp; omega
          case n6 =>
            intro v1 w2 ho2 hg2 _ _
            have hb2 := (hnb.alloc (by omega) _).grown hg2 (by simp; omega) (fun g hg => (hnown.lt g hg).1)
            have R : w2.ownsRow (wo.heap.size + 1) 9 1 v1 (q + 1) (List.replicate (q + 1) (.string ⟨#[97]⟩)) := by
              rw [List.replicate_succ']; exact ho2
            clear ho2 hg2 hnown hnb
            go_wp2
            go_roundw
            case rel =>
              first
                | exact ⟨q + 1, by omega, by go_num, R, hb2⟩
                | ((repeat apply Exists.intro); exact ⟨⟨q + 1, by omega, by go_num, R, hb2⟩, rfl⟩)
            case measure => simp [intOf]; omega
        · have hql' : ¬ (q : Int) < lab % 3 := by omega
          obtain ⟨na, nc, rfl⟩ := ownsRow_shape hnown
          obtain rfl : q = (lab % 3).toNat := by omega
          have d0 : wr.cell? ⟨wo.heap.size, 0, none⟩ = some (.int .u8 sec) := (hnb.cell (by simp)).trans (by simp)
          have d2 : wr.cell? ⟨wo.heap.size, 2, none⟩ = some (.bool has) := (hnb.cell (by simp)).trans (by simp)
          have hz : wo.heap.size < wr.heap.size := by omega
          clear hnown
          have hMs : wr.heap[M]? = some (.cells (msgCells w.heap.size k rs.length) 47 (0, 0)) := (hnb.block M (by omega)).trans ((Below.heap_alloc _ _ _ hMH).trans hR.msg)
          have cM : wr.cell? ⟨M, 16, none⟩ = some (.slice (some ⟨w.heap.size, 0, none⟩) k rs.length) := by rw [cell_of_row wr _ _ _ _ _ hMs]; rfl
          have hMw : M < wr.heap.size := by omega
          have fM : wr.frozen? ⟨M, 16, none⟩ = false := by simp [World.frozen?, hMs]
          have hGl := hR.lt
          have hownr : wr.ownsRow w.heap.size 57 9 (.slice (some ⟨w.heap.size, 0, none⟩) k rs.length) k css.flatten :=
            own_same hR.own (fun g hg => by cases hg; exact (hnb.block _ (by simp; omega)).trans (Below.heap_alloc _ _ _ (by simp; omega)))
          have hB0r : Below wo.heap.size wo wr := ((Below.refl _ _).alloc (Nat.le_refl _) _).trans (hnb.mono (by omega))
          cases has
          · go_wp2
            go_region_law ((refine step_append_fits (by rfl) _ _ 45 (by rfl) w.heap.size 57 i0 9 Yba.underlying45 hi hz1 w.heap.size k rs.length css.flatten (by rfl) (((hownr.alloc _).alloc _).drew) ⟨wr.heap.size + 1, 0, none⟩ 1 1 [.int .u8 (sec % 3), .slice na (lab % 3).toNat nc, .slice none 0 0, .int .u16 1, .int .u16 0, .int .u32 0, .slice none 0 0, .nilIface, .pointer none] (by rfl) (by rfl) (World.news_of_block (heap_new (wr.alloc _) _ _ (by simp))) (one_nine rfl rfl rfl rfl rfl rfl rfl rfl rfl) (by omega) ?_; intro w7 ho7 hg7; obtain ⟨cM7, fM7⟩ := tail_facts hg7 hMw hGl cM fM))
            all_goals
              have hB6 := (hB0r.alloc (Nat.le_of_lt hz) (.cells #[.int .u8 (sec % 3), .slice na (lab % 3).toNat nc, .slice none 0 0, .int .u16 1, .int .u16 0, .int .u32 0, .slice none 0 0, .nilIface, .pointer none] 57))
              have R := build_tail hR hB6 Hr.out ⟨_, _, _, _, _, _, _, _, rfl, ⟨na, nc, rfl⟩, fun _ => rfl, fun h => by cases h⟩ (tail_grown hg7) ho7
              clear hB6 ho7 hg7 hownr cM7 fM7 cM fM hMs
              go_wp2
              go_roundw
              case rel => exact ⟨k + 1, _, by omega, by go_num, R⟩
              case measure => simp [intOf]; omega
          · have hB6 := (hB0r.alloc (Nat.le_of_lt hz) (.cells #[.int .u8 (sec % 3), .slice na (lab % 3).toNat nc, .slice none 0 0, .int .u16 1, .int .u16 0, .int .u32 0, .slice none 0 0, .nilIface, .pointer none] 57))
            have d8 : wr.cell? ⟨wo.heap.size, 8, none⟩ = some (.slice oa os.length oc) := (hnb.cell (by simp)).trans (by simp)
            go_wp2_with (at_make; refine wpList_make_own _ rfl _ _ 35 rfl (wr.heap.size + 1) 59 i59 _ 2 Yba.underlying35 hi59 hz590 hz591 _ _ _ os.length rfl rfl (by omega) ?m2 ?m3 ?m4 ?_)
            case m2 => omega
            case m3 => unfold maxLen; omega
            intro w3 ho3 hg3
            have hb3 : Below (wr.heap.size + 1) (wr.alloc (.cells #[.int .u8 (sec % 3), .slice na (lab % 3).toNat nc, .slice none 0 0, .int .u16 1, .int .u16 0, .int .u32 0, .slice none 0 0, .nilIface, .pointer none] 57)) w3 :=
              (Below.refl _ _).grown hg3 (by simp) (fun g hg => by cases hg)
            have hrel0 : OptRel (wr.heap.size + 1) (wr.alloc (.cells #[.int .u8 (sec % 3), .slice na (lab % 3).toNat nc, .slice none 0 0, .int .u16 1, .int .u16 0, .int .u32 0, .slice none 0 0, .nilIface, .pointer none] 57)) os 0 [] w3 :=
              ⟨ho3, fun j o _ h => absurd h (by omega), hb3⟩
            have e8 : w3.cell? ⟨wo.heap.size, 8, none⟩ = some (.slice oa os.length oc) := (hb3.cell (by simp; omega)).trans ((World.cell?_alloc_past _ _ _ (by simpa using hz)).trans d8)
            obtain ⟨wn, hwn⟩ : ∃ x, x = wr := ⟨_, rfl⟩
            subst hwn
            go_wp2
            go_loopw [9, 51] (fun v i wq => ∃ (q : Nat) (cells : List Value), q ≤ os.length ∧ i = .int .i64 q ∧ v = .slice (some ⟨wn.heap.size + 1, 0, none⟩) q os.length ∧
                OptRel (wn.heap.size + 1) (wn.alloc (.cells #[.int .u8 (sec % 3), .slice na (lab % 3).toNat nc, .slice none 0 0, .int .u16 1, .int .u16 0, .int .u32 0, .slice none 0 0, .nilIface, .pointer none] 57)) os q cells wq)
              (fun _ i _ => os.length - (intOf i).toNat)
            case atStart => exact ⟨0, [], Nat.zero_le _, rfl, rfl, hrel0⟩
            case round =>
              clear hrel0 hb3 ho3 hg3 e8
              obtain ⟨q, cells, hqo, rfl, rfl, hO⟩ := hrel
              have hbO := hO.below
              have hsO := hbO.size
              simp at hsO
              have hsO2 : wn.heap.size + 1 < wr.heap.size := (hO.own.lt _ rfl).2
              have e8 : wr.cell? ⟨wo.heap.size, 8, none⟩ = some (.slice oa os.length oc) := (hbO.cell (by simp; omega)).trans ((World.cell?_alloc_past _ _ _ (by simpa using hz)).trans d8)
              by_cases hqlt : q < os.length
              · obtain ⟨o, hoo⟩ : ∃ o, os[q]? = some o := ⟨os[q], by simp [hqlt]⟩
                obtain ⟨b2, off2, dv, rfl, hc0, hc1, hdv⟩ := hopr q o hoo
                obtain ⟨code, data⟩ := o
                have hwo := hwf.opts _ (List.mem_of_getElem? hoo)
                obtain ⟨hw0, hw1, hw2, hw3⟩ := hwo
                clear hw3
                simp only at hw0 hw1 hw2 hc0 hdv
                have hb2l : b2 < wo.heap.size := World.block_lt_of_cell? wo _ hc0
                have hsame : ∀ b', b' < wo.heap.size → wr.heap[b']? = wo.heap[b']? := fun b' hb' => (hbO.block b' (by omega)).trans ((Below.heap_alloc _ _ _ (by omega)).trans (hB0r.block b' hb'))
                have g0 : wr.cell? ⟨b2, off2 + q * 2, none⟩ = some (.int .u16 code) := (World.cell?_of_block (w := wo) (a := ⟨b2, off2 + q * 2, none⟩) (hsame b2 hb2l)).trans hc0
                have g1 : wr.cell? ⟨b2, off2 + q * 2 + 1, none⟩ = some dv := (World.cell?_of_block (w := wo) (a := ⟨b2, off2 + q * 2 + 1, none⟩) (hsame b2 hb2l)).trans hc1
                have hdr : BytesIn wr dv data := hdv.mono hsame
                have hdv0 := hdv
                obtain ⟨da, dc, rfl, _, _⟩ := hdv
                have HS := hid_mk hsame
                clear hsame hc0 hc1
                go_wp2_with (at_builtin; refine wpList_append_src _ rfl _ _ 38 38 rfl (wn.heap.size + 2) 5 i5 (.int .u8 0) 1 1 Yba.underlying38 hi5 hz50 hz51 hz52 rfl _ 0 [] rfl _ data.length (data.map (Value.int .u8)) rfl (World.ownsRow_nil _ _ _ _) hdr.src ?o3 ?o4 ?o5 ?o6)
                case o3 => unfold maxLen; omega
                case o4 => omega
                case o5 => omega
                case o6 =>
                  intro v1 w2 ho2 hg2 _ hat2
                  obtain ⟨va, vc, rfl⟩ := ownsRow_shape ho2
                  have hg2 : wr.grownBy w2 none := hg2
                  have hs2 := hg2.size
                  have f0 : w2.cell? ⟨b2, off2 + q * 2, none⟩ = some (.int .u16 code) := (hg2.cell_far _ (by simp; omega) (by simp)).trans g0
                  have f8 : w2.cell? ⟨wo.heap.size, 8, none⟩ = some (.slice (some ⟨b2, off2, none⟩) os.length oc) := (hg2.cell_far _ (by simp; omega) (by simp)).trans e8
                  have hown2 : w2.ownsRow (wn.heap.size + 1) 59 2 (.slice (some ⟨wn.heap.size + 1, 0, none⟩) q os.length) q cells := own_same hO.own (fun g hg => hg2.block g (by cases hg; simp; omega) (by simp))
                  have HG2 := hid_mk hg2
                  clear g0 g1 e8 hdr hdv0 hat2 hg2
                  go_wp2_with (at_builtin; refine wpList_append_fits _ rfl _ _ 35 rfl (wn.heap.size + 1) 59 i59 2 Yba.underlying35 hi59 hz591 (wn.heap.size + 1) q os.length cells rfl (hown2.alloc _) ⟨w2.heap.size, 0, none⟩ 1 1 [.int .u16 code, .slice va data.length vc] rfl rfl ?q1 ?q2 ?q3 ?q4)
                  case q1 => exact World.news_of_block (heap_new _ _ _ rfl)
                  case q2 => intro u hu; simp at hu; rcases hu with rfl | rfl <;> rfl
                  case q3 => omega
                  case q4 =>
                    intro w4 ho4 hg4
                    have R := opts_step hO hoo HG2.out ho2 hg4 ho4
                    clear hO ho4 hg4 ho2 hown2
                    go_wp2
                    go_roundw
                    case rel =>
                      first
                        | exact ⟨q + 1, _, by omega, by go_num, rfl, R⟩
                        | ((repeat apply Exists.intro); exact ⟨⟨by omega, by go_num, rfl, R⟩, rfl⟩)
                    case measure => simp [intOf]; omega
              · obtain rfl : q = os.length := by omega
                have hcR : ∀ j, wr.cell? ⟨wn.heap.size, j, none⟩ = _ := fun j => hbO.cell (by simp)
                have hfR : ∀ j, wr.frozen? ⟨wn.heap.size, j, none⟩ = _ := fun j => hbO.frozen (by simp)
                have hcH : ∀ j, wr.cell? ⟨wo.heap.size, j, none⟩ = _ := fun j => (hbO.cell (p := ⟨wo.heap.size, j, none⟩) (by simp; omega)).trans ((World.cell?_alloc_past _ _ _ (by simpa using hz)).trans (hnb.cell (by simp)))
                have hsame : ∀ b', b' < wo.heap.size → wr.heap[b']? = wo.heap[b']? := fun b' hb' => (hbO.block b' (by omega)).trans ((Below.heap_alloc _ _ _ (by omega)).trans (hB0r.block b' hb'))
                have hudp : 0 ≤ udp ∧ udp ≤ 65535 := hwf.udp
                have HS := hid_mk hsame
                have cM4 : wr.cell? ⟨M, 16, none⟩ = some (.slice (some ⟨w.heap.size, 0, none⟩) k rs.length) := (hbO.cell (p := ⟨M, 16, none⟩) (by simp; omega)).trans ((World.cell?_alloc_past _ _ _ (by simpa using hMw)).trans cM)
                have fM4 : wr.frozen? ⟨M, 16, none⟩ = false := (World.frozen?_of_block (w := wn) (a := ⟨M, 16, none⟩) ((hbO.block M (by omega)).trans (Below.heap_alloc _ _ _ hMw))).trans fM
                have hown4 : wr.ownsRow w.heap.size 57 9 (.slice (some ⟨w.heap.size, 0, none⟩) k rs.length) k css.flatten :=
                  own_same hownr (fun g hg => by cases hg; exact (hbO.block _ (by simp; omega)).trans (Below.heap_alloc _ _ _ (by simp; omega)))
                have hB4 : Below wo.heap.size wo wr := hB6.trans (hbO.mono (by omega))
                clear hsame e8 cM fM hMs hownr
                obtain ⟨W, hW⟩ : ∃ W, W = (wr.setCell ⟨wn.heap.size, 3, none⟩ (.int .u16 41)).setCell ⟨wn.heap.size, 4, none⟩ (.int .u16 udp) := ⟨_, rfl⟩
                have hWb : ∀ b', b' ≠ wn.heap.size → W.heap[b']? = wr.heap[b']? := fun b' hb' => by
                  rw [hW, Below.heap_setCell _ _ _ _ (by simpa using hb'), Below.heap_setCell _ _ _ _ (by simpa using hb')]
                have hWs : W.heap.size = wr.heap.size := by rw [hW]; simp [World.setCell]
                obtain ⟨E, hE⟩ : ∃ E, Hid (E = encOf ⟨sec, lab, true, udp, ext, ver, dO, z, oa, oc, os, mode⟩) := ⟨_, rfl⟩
                have he := enc_walk ⟨sec, lab, true, udp, ext, ver, dO, z, oa, oc, os, mode⟩ W hwf (hopr.mono (fun b' hb' => (hWb b' (by omega)).trans (HS.out b' hb'))) E hE
                simp only [Rec.cells] at he
                rw [hW] at he
                have HE := hid_mk he
                have HWb := hid_mk hWb
                have HWs := hid_mk hWs
                have HW := hid_mk hW
                clear he hWb hWs hW
                go_wp2_with fail
                refine HE.out.mono ?_
                rintro e w5 ⟨ve, rfl, ho5, hb5⟩
                have hb5' : Below W.heap.size W w5 := by rw [HW.out]; exact hb5
                have ho5' : w5.ownsRow W.heap.size 5 1 ve E.length (E.map (Value.int .u8)) := by rw [HW.out]; exact ho5
                obtain ⟨ea, ec, rfl⟩ := ownsRow_shape ho5
                have hs5 := hb5'.size
                have hWsz := HWs.out
                have k5R : ∀ j, w5.cell? ⟨wn.heap.size, j, none⟩ = _ := fun j => hb5.cell (by simp [World.setCell]; omega)
                have f5R : ∀ j, w5.frozen? ⟨wn.heap.size, j, none⟩ = _ := fun j => hb5.frozen (by simp [World.setCell]; omega)
                have k5H : ∀ j, w5.cell? ⟨wo.heap.size, j, none⟩ = _ := fun j => (hb5'.cell (p := ⟨wo.heap.size, j, none⟩) (by simp; omega)).trans ((World.cell?_of_block (w := wr) (a := ⟨wo.heap.size, j, none⟩) (HWb.out _ (by simp; omega))).trans (hcH j))
                have hM5 : w5.heap[M]? = wr.heap[M]? := (hb5'.block M (by omega)).trans (HWb.out M (by omega))
                have cM5 : w5.cell? ⟨M, 16, none⟩ = some (.slice (some ⟨w.heap.size, 0, none⟩) k rs.length) := (World.cell?_of_block (w := wr) (a := ⟨M, 16, none⟩) hM5).trans cM4
                have fM5 : w5.frozen? ⟨M, 16, none⟩ = false := (World.frozen?_of_block (w := wr) (a := ⟨M, 16, none⟩) hM5).trans fM4
                have hown5 : w5.ownsRow w.heap.size 57 9 (.slice (some ⟨w.heap.size, 0, none⟩) k rs.length) k css.flatten :=
                  own_same hown4 (fun g hg => by cases hg; exact (hb5'.block _ (by simp; omega)).trans (HWb.out _ (by simp; omega)))
                have hB5 : Below wo.heap.size wo w5 := hB4.trans (Below.trans (b := W) ⟨by rw [HW.out]; rfl, by rw [HW.out]; rfl, by rw [HW.out]; rfl, by omega, fun b' hb' => HWb.out b' (by omega)⟩ (hb5'.mono (by omega)))
                have hz5 : wn.heap.size < w5.heap.size := by omega
                have hMw5 : M < w5.heap.size := by omega
                have hM6h : ((w5.setCell ⟨wn.heap.size, 6, none⟩ (.slice ea E.length ec)).setCell ⟨wn.heap.size, 8, none⟩ (.pointer (some ⟨w5.heap.size, 0, none⟩))).heap[M]? = w5.heap[M]? := by
                  rw [Below.heap_setCell _ _ _ _ (by simp; omega), Below.heap_setCell _ _ _ _ (by simp; omega)]
                have cM6 : ((w5.setCell ⟨wn.heap.size, 6, none⟩ (.slice ea E.length ec)).setCell ⟨wn.heap.size, 8, none⟩ (.pointer (some ⟨w5.heap.size, 0, none⟩))).cell? ⟨M, 16, none⟩ = some (.slice (some ⟨w.heap.size, 0, none⟩) k rs.length) :=
                  (World.cell?_of_block (w := w5) (a := ⟨M, 16, none⟩) hM6h).trans cM5
                have fM6 : ((w5.setCell ⟨wn.heap.size, 6, none⟩ (.slice ea E.length ec)).setCell ⟨wn.heap.size, 8, none⟩ (.pointer (some ⟨w5.heap.size, 0, none⟩))).frozen? ⟨M, 16, none⟩ = false :=
                  (World.frozen?_of_block (w := w5) (a := ⟨M, 16, none⟩) hM6h).trans fM5
                have hM6 : M < ((w5.setCell ⟨wn.heap.size, 6, none⟩ (.slice ea E.length ec)).setCell ⟨wn.heap.size, 8, none⟩ (.pointer (some ⟨w5.heap.size, 0, none⟩))).heap.size := by simp [World.setCell]; omega
                clear hM6h
                have hown6 : ((w5.setCell ⟨wn.heap.size, 6, none⟩ (.slice ea E.length ec)).setCell ⟨wn.heap.size, 8, none⟩ (.pointer (some ⟨w5.heap.size, 0, none⟩))).ownsRow w.heap.size 57 9 (.slice (some ⟨w.heap.size, 0, none⟩) k rs.length) k css.flatten :=
                  own_same hown5 (fun g hg => by cases hg; rw [Below.heap_setCell _ _ _ _ (by simp; omega), Below.heap_setCell _ _ _ _ (by simp; omega)])
                clear cM4 fM4 hown4 hcH hM5 hb5 ho5 HE
                go_wp2
                go_region_law ((refine step_append_fits (by rfl) _ _ 45 (by rfl) w.heap.size 57 i0 9 Yba.underlying45 hi hz1 w.heap.size k rs.length css.flatten (by rfl) (((hown6.alloc _).alloc _).drew) ⟨w5.heap.size + 1, 0, none⟩ 1 1 [.int .u8 (sec % 3), .slice na (lab % 3).toNat nc, .slice none 0 0, .int .u16 41, .int .u16 udp, .int .u32 0, .slice ea E.length ec, .nilIface, .pointer (some ⟨w5.heap.size, 0, none⟩)] (by rfl) (by rfl) (World.news_of_block (heap_new (World.alloc ((w5.setCell ⟨wn.heap.size, 6, none⟩ (.slice ea E.length ec)).setCell ⟨wn.heap.size, 8, none⟩ (.pointer (some ⟨w5.heap.size, 0, none⟩))) _) _ _ (by simp))) (one_nine rfl rfl rfl rfl rfl rfl rfl rfl rfl) (by omega) ?_; intro w7 ho7 hg7; obtain ⟨cM7, fM7⟩ := tail_facts hg7 hM6 hGl cM6 fM6))
                all_goals
                  have hC := build_has (na := na) (nc := nc) (R := wn.heap.size) (M := M) (W6a := (w5.setCell ⟨wn.heap.size, 6, none⟩ (.slice ea E.length ec)).setCell ⟨wn.heap.size, 8, none⟩ (.pointer (some ⟨w5.heap.size, 0, none⟩))) ⟨sec, lab, true, udp, ext, ver, dO, z, oa, oc, os, mode⟩ rfl hMw hO HWb.out HWs.out hb5' ho5' hE.out (fun b' hb' => by rw [Below.heap_setCell _ _ _ _ (by simpa using hb'), Below.heap_setCell _ _ _ _ (by simpa using hb')]) (by simp [World.setCell])
                  have hB6' := (((hB5.setCell (p := ⟨wn.heap.size, 6, none⟩) (by simp; omega) (.slice ea E.length ec)).setCell (p := ⟨wn.heap.size, 8, none⟩) (by simp; omega) (.pointer (some ⟨w5.heap.size, 0, none⟩))).alloc (by simp [World.setCell]; omega) (.cells #[.int .u16 udp, .int .u8 ext, .int .u8 ver, .bool dO, .int .u16 z, .slice (some ⟨wn.heap.size + 1, 0, none⟩) os.length os.length] 37))
                  have R := build_tail hR hB6' Hr.out hC (tail_grown hg7) ho7
                  clear hC hB6' ho7 hg7 hown6 cM7 fM7 cM6 fM6 k5R f5R k5H hcR hfR
                  go_wp2
                  go_roundw
                  case rel =>
                    first
                      | exact ⟨k + 1, _, by omega, by go_num, R⟩
                      | ((repeat apply Exists.intro); exact ⟨⟨by omega, by go_num, R⟩, rfl⟩)
                  case measure => simp [intOf]; omega
    · obtain rfl : k = rs.length := by omega
      obtain ⟨e1, e2⟩ := hR.out
      have hbb := hR.below
      go_wp2
      go_ret
      exact ⟨M, w.heap.size, rs.length, rfl, hbb, e1, e2⟩
end Go.Proofs.Ybulkbzsg

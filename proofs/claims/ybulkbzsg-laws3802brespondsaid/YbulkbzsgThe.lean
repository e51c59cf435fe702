import Derived.Test.YbulkbzsgMsg
import Derived.Deep.RegionHeld3
import Derived.Deep.DrawnRows
namespace Go.Proofs.Ybulkbzsg
open Go.RowKit
set_option linter.unusedVariables false
set_option linter.unusedSimpArgs false
attribute [local go_sem ↓] Go.wp_at_zero Go.wp_at_succ

def TheEnd (lo : Nat) (rs : List Rec) (w w' : World) (e : Ending) : Prop :=
  ∃ p, e = .returned (.tuple #[p, .int .u8 (faultOf rs)]) ∧ Below w.heap.size w w' ∧ (faultOf rs ≠ 0 → p = .pointer none) ∧
    (faultOf rs = 0 → ∃ r pp, rs.filter (·.has) = [r] ∧ p = .pointer (some ⟨pp, 0, none⟩) ∧ lo ≤ pp ∧ OptOut lo w pp r)

theorem hid_mk {p : Prop} (h : p) : Hid p := h

theorem take_filter {rs : List Rec} {k : Nat} {r : Rec} (h : rs[k]? = some r) : (rs.take (k + 1)).filter (·.has) = (rs.take k).filter (·.has) ++ (if r.has then [r] else []) := by
  rw [List.take_add_one, h, List.filter_append]
  by_cases hh : r.has <;> simp [hh, List.filter]

theorem filter_split (rs : List Rec) (k : Nat) : rs.filter (·.has) = (rs.take k).filter (·.has) ++ (rs.drop k).filter (·.has) := by
  rw [← List.filter_append, List.take_append_drop]

theorem fault_two {rs : List Rec} {k : Nat} {r r' : Rec} (h : rs[k]? = some r) (h1 : (rs.take k).filter (·.has) = [r']) (hh : r.has = true) : faultOf rs = 2 := by
  have hl : k < rs.length := by
    rcases Nat.lt_or_ge k rs.length with hlt | hge
    · exact hlt
    · rw [List.getElem?_eq_none hge] at h; cases h
  have e : rs.filter (·.has) = r' :: r :: ((rs.drop (k + 1)).filter (·.has)) := by
    rw [filter_split rs k, h1, List.drop_eq_getElem_cons hl]
    have : rs[k] = r := by rw [List.getElem?_eq_getElem hl] at h; exact Option.some.inj h
    rw [this]
    simp [List.filter, hh]
  unfold faultOf
  rw [e]

theorem fault_none {rs : List Rec} (h : rs.filter (·.has) = []) : faultOf rs = 1 := by unfold faultOf; rw [h]
theorem fault_one {rs : List Rec} {r : Rec} (h : rs.filter (·.has) = [r]) : faultOf rs = if r.sec % 3 ≠ 2 then 3 else if r.lab % 3 ≠ 0 then 4 else if encs r.os ≠ encOf r then 5 else 0 := by unfold faultOf; rw [h]

theorem fld6 (d0 d1 d2 d3 d4 d5 d6 d7 d8 : Value) (w : World) : (Instr.field 57 (.agg #[d0, d1, d2, d3, d4, d5, d6, d7, d8]) 6).run Yba.prog w = .ok d6 w := by kernel_rfl

set_option maxHeartbeats 400000 in
theorem the_nil (w : World) : Calls Yba.prog 9 #[.pointer none] w fun e w' => e = .returned (.tuple #[.pointer none, .int .u8 1]) ∧ w' = w := by
  go_enter Yba.func9, Yba.ntmps9
  go_wp2
  go_ret2
  exact ⟨rfl, rfl⟩

set_option maxHeartbeats 1000000 in
set_option maxRecDepth 100000 in
theorem the_walk (lo M G cap : Nat) (rs : List Rec) (w : World) (hrs : ∀ r ∈ rs, RecWf r) (hlen : rs.length ≤ 1024) (hM : w.cell? ⟨M, 16, none⟩ = some (.slice (some ⟨G, 0, none⟩) rs.length cap)) (hG : RecsIn lo w G rs) :
    Calls Yba.prog 9 #[.pointer (some ⟨M, 0, none⟩)] w fun e w' => TheEnd lo rs w w' e := by
  go_enter Yba.func9, Yba.ntmps9
  go_wp2
  go_loop [4, 13] (fun p i => ∃ k : Nat, k ≤ rs.length ∧ i = .int .i64 k ∧ (((rs.take k).filter (·.has) = [] ∧ p = .pointer none) ∨ ∃ j r, j < k ∧ rs[j]? = some r ∧ (rs.take k).filter (·.has) = [r] ∧ p = .pointer (some ⟨G, j * 9, none⟩)))
    (fun _ i => rs.length - (intOf i).toNat)
  case atStart => exact ⟨0, Nat.zero_le _, rfl, .inl ⟨rfl, rfl⟩⟩
  case round =>
    obtain ⟨k, hk, rfl, hp⟩ := hrel
    by_cases hlt : k < rs.length
    · obtain ⟨r, hr⟩ : ∃ r, rs[k]? = some r := ⟨rs[k], by simp [hlt]⟩
      obtain ⟨cs, hcs, hcc⟩ := hG k r hr
      obtain ⟨nv, raw, ty, cl, ttl, dv, rd, ov, rfl, ⟨na, nc, rfl⟩, hov0, hov1⟩ := hcs
      have c8 := hcc 8 ov rfl
      clear hcc
      cases hh : r.has with
      | false =>
        obtain rfl := hov0 hh
        have HR := take_filter hr
        rw [hh] at HR
        have HR' : Hid ((rs.take (k + 1)).filter (·.has) = (rs.take k).filter (·.has)) := hid_mk (by simpa using HR)
        clear HR hov0 hov1 hr hh
        go_wp2
        go_round
        case rel =>
          refine ⟨k + 1, by omega, by go_num, ?_⟩
          rw [HR'.out]
          rcases hp with hp | ⟨j, r', h1, h2⟩
          · exact .inl hp
          · exact .inr ⟨j, r', by omega, h2⟩
        case measure => simp [intOf]; omega
      | true =>
        obtain ⟨_, pp, _, rfl, _⟩ := hov1 hh
        have HR := take_filter hr
        rw [hh] at HR
        rcases hp with ⟨hf, rfl⟩ | ⟨j, r', h1, h2, h3, rfl⟩
        · rw [hf] at HR
          have HR' : Hid ((rs.take (k + 1)).filter (·.has) = [r]) := hid_mk (by simpa using HR)
          have Hr := hid_mk hr
          clear HR hov0 hov1 hr hh hf
          go_wp2
          go_round
          case rel => exact ⟨k + 1, by omega, by go_num, .inr ⟨k, r, by omega, Hr.out, HR'.out, rfl⟩⟩
          case measure => simp [intOf]; omega
        · have HF := hid_mk (fault_two hr h3 hh)
          clear HR hov0 hov1 hr hh h2 h3
          go_wp2
          go_ret2
          refine ⟨.pointer none, ?_, Below.refl _ _, fun _ => rfl, fun h => ?_⟩
          · rw [HF.out]; rfl
          · rw [HF.out] at h; cases h
    · obtain rfl : k = rs.length := by omega
      rw [List.take_length] at hp
      rcases hp with ⟨hf, rfl⟩ | ⟨j, r, hj, hr, hf, rfl⟩
      · have HF := hid_mk (fault_none hf)
        clear hf
        go_wp2
        go_ret2
        refine ⟨.pointer none, ?_, Below.refl _ _, fun _ => rfl, fun h => ?_⟩
        · rw [HF.out]; rfl
        · rw [HF.out] at h; cases h
      · have HF := hid_mk (fault_one hf)
        have Hf := hid_mk hf
        obtain ⟨cs, hcs, hcc⟩ := hG j r hr
        obtain ⟨nv, raw, ty, cl, ttl, dv, rd, ov, rfl, ⟨na, nc, rfl⟩, hov0, hov1⟩ := hcs
        have hwf := hrs r (List.mem_of_getElem? hr)
        have hhas : r.has = true := by
          have : r ∈ rs.filter (·.has) := by rw [hf]; simp
          exact (List.mem_filter.1 this).2
        obtain ⟨hdv, pp, hpp, rfl, hopt⟩ := hov1 hhas
        have c8 := hcc 8 _ rfl
        have c0 := hcc 0 _ rfl
        rw [Nat.add_zero] at c0
        have c1 := hcc 1 _ rfl
        have c6 := hcc 6 _ rfl
        clear hcc hov0 hov1 hr hf hhas
        have hsec := hwf.sec
        have hlab := hwf.lab
        by_cases hs : r.sec % 3 = 2
        · by_cases hl : r.lab % 3 = 0
          · obtain ⟨og, oc, hog, hpc, hoo⟩ := hopt
            have hGl : G < w.heap.size := World.block_lt_of_cell? w _ c8
            have hpl : pp < w.heap.size := heap_lt hpc
            have p0 : w.cell? ⟨pp, 0, none⟩ = some (.int .u16 r.udp) := by rw [cell_of_row w _ _ _ _ _ hpc]; rfl
            have p1 : w.cell? ⟨pp, 1, none⟩ = some (.int .u8 r.ext) := by rw [cell_of_row w _ _ _ _ _ hpc]; rfl
            have p2 : w.cell? ⟨pp, 2, none⟩ = some (.int .u8 r.ver) := by rw [cell_of_row w _ _ _ _ _ hpc]; rfl
            have p3 : w.cell? ⟨pp, 3, none⟩ = some (.bool r.dO) := by rw [cell_of_row w _ _ _ _ _ hpc]; rfl
            have p4 : w.cell? ⟨pp, 4, none⟩ = some (.int .u16 r.z) := by rw [cell_of_row w _ _ _ _ _ hpc]; rfl
            have p5 : w.cell? ⟨pp, 5, none⟩ = some (.slice (some ⟨og, 0, none⟩) r.os.length oc) := by rw [cell_of_row w _ _ _ _ _ hpc]; rfl
            have hoi : OptsIn w.drew (some ⟨og, 0, none⟩) r.os := (OptOut.optsIn (p := pp) hoo).mono (fun _ _ => rfl)
            have hdi : BytesIn w.drew dv (encOf r) := (ownsRow_bytesIn hdv).mono (fun _ _ => rfl)
            have hs' : (r.sec % 3 != 2) = false := by simpa using hs
            have hl' : (r.lab % 3).toNat = 0 := by omega
            clear hl hs
            have HC := hid_mk hpc
            clear hpc
            have hf6 := fld6
            obtain ⟨q, hq⟩ : ∃ q, Hid (q = decide (encs r.os = encOf r)) := ⟨_, rfl⟩
            go_wp2
            go_region_held3 (fun w' => w'.cell? ⟨G, j * 9 + 8, none⟩ = some (.pointer (some ⟨pp, 0, none⟩)) ∧ w'.cell? ⟨G, j * 9 + 6, none⟩ = some dv ∧ w'.cell? ⟨pp, 0, none⟩ = some (.int .u16 r.udp) ∧ w'.cell? ⟨pp, 1, none⟩ = some (.int .u8 r.ext) ∧ w'.cell? ⟨pp, 2, none⟩ = some (.int .u8 r.ver) ∧ w'.cell? ⟨pp, 3, none⟩ = some (.bool r.dO) ∧ w'.cell? ⟨pp, 4, none⟩ = some (.int .u16 r.z) ∧ w'.cell? ⟨pp, 5, none⟩ = some (.slice (some ⟨og, 0, none⟩) r.os.length oc))
              (first | go_keep | (simp only [hbR.cell (p := ⟨G, j * 9 + 8, none⟩) (by simpa using hGl), hbR.cell (p := ⟨G, j * 9 + 6, none⟩) (by simpa using hGl), hbR.cell (p := ⟨pp, 0, none⟩) (by simpa using hpl), hbR.cell (p := ⟨pp, 1, none⟩) (by simpa using hpl), hbR.cell (p := ⟨pp, 2, none⟩) (by simpa using hpl), hbR.cell (p := ⟨pp, 3, none⟩) (by simpa using hpl), hbR.cell (p := ⟨pp, 4, none⟩) (by simpa using hpl), hbR.cell (p := ⟨pp, 5, none⟩) (by simpa using hpl)]; go_keep))
              (first | (go_at_call 12; refine (rcd_walk _ _ _ _ _ _ _ _ _ hwf.udp hwf.ext hwf.ver hwf.z hwf.len hwf.opts hoi).mono ?_; rintro e w2 ⟨d0, d1, d2, d3, d4, d5, d6, d7, d8, rfl, hoR, hbR⟩) | (go_at_call 11; refine (beq_walk _ _ _ _ _ (ownsRow_bytesIn hoR) (hdi.mono (fun b hb => hbR.block b hb)) (encs_bytes _ hwf.opts) (encOf_bytes _ hwf)).mono ?_; rw [← hq.out]; rintro e w3 ⟨rfl, rfl⟩))
            have hB0 : Below w.heap.size w w3 := ((Below.refl _ _).drew).trans hbR
            obtain ⟨e8, _⟩ := ‹w3.cell? _ = _ ∧ _›
            cases q
            · have HF' : Hid (faultOf rs = 5) := by rw [HF.out, if_neg (by simpa using hs'), if_neg (by omega), if_pos (by have := hq.out; simpa using this)]; exact hid_mk rfl
              clear HF hq hoR hbR hdi hoi c0 c1 c6 c8
              go_wp2
              go_ret2
              refine ⟨.pointer none, ?_, hB0, fun _ => rfl, fun h => ?_⟩
              · rw [HF'.out]; rfl
              · rw [HF'.out] at h; cases h
            · have HF' : Hid (faultOf rs = 0) := by rw [HF.out, if_neg (by simpa using hs'), if_neg (by omega), if_neg (by have := hq.out; simpa using this)]; exact hid_mk rfl
              clear HF hq hoR hbR hdi hoi c0 c1 c6 c8
              go_wp2
              go_ret2
              refine ⟨.pointer (some ⟨pp, 0, none⟩), ?_, hB0, fun h => absurd HF'.out h, fun _ => ⟨r, pp, Hf.out, rfl, hpp, og, oc, hog, HC.out, hoo⟩⟩
              rw [HF'.out]; rfl
          · have hs' : (r.sec % 3 != 2) = false := by simpa using hs
            have hl' : (r.lab % 3).toNat ≠ 0 := by omega
            have HF' : Hid (faultOf rs = 4) := by rw [HF.out, if_neg (by simpa using hs), if_pos hl]; exact hid_mk rfl
            clear HF hs hl
            go_wp2
            go_ret2
            refine ⟨.pointer none, ?_, Below.refl _ _, fun _ => rfl, fun h => ?_⟩
            · rw [HF'.out]; rfl
            · rw [HF'.out] at h; cases h
        · have hs' : (r.sec % 3 != 2) = true := by simpa using hs
          have HF' : Hid (faultOf rs = 3) := by rw [HF.out, if_pos hs]; exact hid_mk rfl
          clear HF hs
          go_wp2
          go_ret2
          refine ⟨.pointer none, ?_, Below.refl _ _, fun _ => rfl, fun h => ?_⟩
          · rw [HF'.out]; rfl
          · rw [HF'.out] at h; cases h
end Go.Proofs.Ybulkbzsg

import Derived.Test.YbulkbzsgEnc
namespace Go.Proofs.Ybulkbzsg
open Go.RowKit
set_option linter.unusedVariables false
set_option linter.unusedSimpArgs false

theorem BytesIn.conv {w : World} {v : Value} {bs : List Int} (h : BytesIn w v bs) : (convert 38 9 v).run Yba.prog w = .ok (.string (strOfNums bs)) w := by
  obtain ⟨a, c, rfl, hn, hs⟩ := h
  cases a with
  | none =>
    have := hn rfl
    subst this
    exact run_convert_bytes_nil w 38 5 Yba.underlying38 Yba.underlying5 _ c 9 Yba.underlying9
  | some x =>
    have hl : (loadCells x bs.length).run Yba.prog w = .ok (bs.map (Value.int .u8)).toArray w := by
      simpa using run_loadCells_list (P := Yba.prog) w x (bs.map (Value.int .u8)) (hs x rfl)
    rw [run_convert_bytes_string w 38 9 5 _ _ c Yba.underlying38 Yba.underlying5 Yba.underlying9, run_bytesToString w _ _ c bs hl, foldl_push_bytes]
    simp [strOfNums, ByteArray.empty, ByteArray.emptyWithCapacity]
    rfl

theorem strOfNums_inj {a b : List Int} (ra : ∀ x ∈ a, 0 ≤ x ∧ x ≤ 255) (rb : ∀ x ∈ b, 0 ≤ x ∧ x ≤ 255) (h : (a.map fun n => UInt8.ofNat n.toNat) = b.map fun n => UInt8.ofNat n.toNat) : a = b := by
  induction a generalizing b with
  | nil => cases b with
    | nil => rfl
    | cons y t => simp at h
  | cons x t ih => cases b with
    | nil => simp at h
    | cons y u =>
      simp only [List.map_cons, List.cons.injEq] at h
      have e := ih (fun z hz => ra z (by simp [hz])) (fun z hz => rb z (by simp [hz])) h.2
      have hx := ra x (by simp)
      have hy := rb y (by simp)
      have h1 := congrArg UInt8.toNat h.1
      simp only [UInt8.toNat_ofNat'] at h1
      rw [Nat.mod_eq_of_lt (by omega), Nat.mod_eq_of_lt (by omega)] at h1
      rw [e, show x = y by omega]

theorem beq_bytes {a b : List Int} (ra : ∀ x ∈ a, 0 ≤ x ∧ x ≤ 255) (rb : ∀ x ∈ b, 0 ≤ x ∧ x ≤ 255) : ((strOfNums a).toList == (strOfNums b).toList) = decide (a = b) := by
  rw [ByteArray.toList_eq, ByteArray.toList_eq, strOfNums_data, strOfNums_data, Bool.eq_iff_iff]
  simp only [beq_iff_eq, decide_eq_true_eq]
  exact ⟨strOfNums_inj ra rb, fun h => by rw [h]⟩

theorem ret_bool {a b : Bool} (h : a = b) : Ending.returned (.bool a) = .returned (.bool b) := by rw [h]

set_option maxHeartbeats 400000 in
theorem beq_walk (v1 v2 : Value) (b1 b2 : List Int) (w : World) (h1 : BytesIn w v1 b1) (h2 : BytesIn w v2 b2) (r1 : ∀ x ∈ b1, 0 ≤ x ∧ x ≤ 255) (r2 : ∀ x ∈ b2, 0 ≤ x ∧ x ≤ 255) :
    Calls Yba.prog 11 #[v1, v2] w fun e w' => e = .returned (.bool (decide (b1 = b2))) ∧ w' = w := by
  have k1 := h1.conv
  have k2 := h2.conv
  go_enter Yba.func11, Yba.ntmps11
  go_wp2
  go_ret
  exact ⟨ret_bool (beq_bytes r1 r2), rfl⟩

def ttlD (d : Bool) (t : Int) : Int := if d then bits BinOp.or IntKind.u32 t 32768 else t
def ttlOf (ext ver z : Int) : Int := bits BinOp.or IntKind.u32 (bits BinOp.or IntKind.u32 (ext * 16777216) (ver * 65536)) (bits BinOp.and IntKind.u16 z 32767 % 4294967296)

set_option maxHeartbeats 1000000 in
set_option maxRecDepth 100000 in
theorem rcd_walk (udp ext ver : Int) (dO : Bool) (z : Int) (oa : Option Addr) (oc : Nat) (os : List (Int × List Int)) (w : World) (hu : 0 ≤ udp ∧ udp ≤ 65535) (he : 0 ≤ ext ∧ ext ≤ 255) (hv : 0 ≤ ver ∧ ver ≤ 255) (hz : 0 ≤ z ∧ z ≤ 65535)
    (hlen : os.length ≤ 1024) (hopts : ∀ o ∈ os, OptWf o) (ho : OptsIn w oa os) :
    Calls Yba.prog 12 #[.agg #[.int .u16 udp, .int .u8 ext, .int .u8 ver, .bool dO, .int .u16 z, .slice oa os.length oc]] w fun e w' => ∃ c0 c1 c2 c3 c4 c5 v c7 c8, e = .returned (.agg #[c0, c1, c2, c3, c4, c5, v, c7, c8]) ∧
      w'.ownsRow w.heap.size 5 1 v (encs os).length ((encs os).map (Value.int .u8)) ∧ Below w.heap.size w w' := by
  obtain ⟨i0, hi, hz0, hz1, hz2⟩ := info_parts Yba.info5
  obtain ⟨T, hT⟩ : ∃ T, Hid (T = ttlD dO (ttlOf ext ver z)) := ⟨_, rfl⟩
  cases dO
  all_goals
    go_enter Yba.func12, Yba.ntmps12
    go_wp2_with fail
    go_loopw [4, 28] (fun v i wr => ∃ k : Nat, k ≤ os.length ∧ i = .int .i64 k ∧ wr.ownsRow (w.heap.size + 2) 5 1 v (encs (os.take k)).length ((encs (os.take k)).map (Value.int .u8)) ∧
      Below (w.heap.size + 2) ((w.alloc (.cells #[.int .u16 udp, .int .u8 ext, .int .u8 ver, .bool _, .int .u16 z, .slice oa os.length oc] 37)).alloc (.cells #[.int .u8 0, .slice none 0 0, .slice none 0 0, .int .u16 0, .int .u16 0, .int .u32 0, .slice none 0 0, .nilIface, .pointer none] 57)) wr)
      (fun _ i _ => os.length - (intOf i).toNat)
    case atStart => exact ⟨0, Nat.zero_le _, rfl, World.ownsRow_nil _ _ _ _, Below.refl _ _⟩
    case round =>
      obtain ⟨k, hk, rfl, hown, hbel⟩ := hrel
      have hsz := hbel.size
      simp at hsz
      by_cases hlt : k < os.length
      · obtain ⟨o, hoo⟩ : ∃ o, os[k]? = some o := ⟨os[k], by simp [hlt]⟩
        obtain ⟨b, off, dv, rfl, hc0, hc1, hdv⟩ := ho k o hoo
        have hwf := hopts o (List.mem_of_getElem? hoo)
        obtain ⟨code, data⟩ := o
        obtain ⟨hw0, hw1, hw2, hw3⟩ := hwf; clear hw3
        simp only at hw0 hw1 hw2 hc0 hdv
        have hbl : b < w.heap.size := World.block_lt_of_cell? w _ hc0
        have c0 : wr.cell? ⟨b, off + k * 2, none⟩ = some (.int .u16 code) := (hbel.cell (p := ⟨b, off + k * 2, none⟩) (by simp; omega)).trans (by rw [World.cell?_alloc_past _ _ _ (by simp; omega), World.cell?_alloc_past _ _ _ (by simpa using hbl)]; exact hc0)
        have c1 : wr.cell? ⟨b, off + k * 2 + 1, none⟩ = some dv := (hbel.cell (p := ⟨b, off + k * 2 + 1, none⟩) (by simp; omega)).trans (by rw [World.cell?_alloc_past _ _ _ (by simp; omega), World.cell?_alloc_past _ _ _ (by simpa using hbl)]; exact hc1)
        have hdv0 := hdv
        obtain ⟨da, dc, rfl, hdn, hds⟩ := hdv
        have hell := encs_len_le (os.take k) (fun o ho => hopts o (List.mem_of_mem_take ho))
        simp only [List.length_take] at hell
        go_wp2_with fail
        refine (au16 (w.heap.size + 2) _ _ _ code _ hw0 hw1 (by omega) (hown.alloc _) (by simp; omega)).mono ?_
        rintro e w1 ⟨v1, rfl, ho1, hg1, hl1⟩
        have hb1 := (hbel.alloc (by omega) _).grown hg1 (by simp; omega) (fun g hg => (hown.lt g hg).1)
        have hne : some wr.heap.size ≠ u4.ownBlock := fun h => by have := (hown.lt _ h.symm).2; omega
        have d1 : w1.cell? ⟨wr.heap.size, 1, none⟩ = some (.slice da data.length dc) := (hg1.cell_far _ (by simp) hne).trans (by simp)
        have hs1 : wr.heap.size < w1.heap.size := by have := hg1.size; simp at this; omega
        clear c0 c1 hc0 hc1 hds hdn
        go_wp2_with fail
        refine (au16 (w.heap.size + 2) _ _ _ (data.length : Int) _ (by omega) (by omega) (by omega) ho1 (by omega)).mono ?_
        rintro e w2 ⟨v2, rfl, ho2, hg2, hl2⟩
        have hb2 := hb1.grown hg2 (by omega) (fun g hg => (ho1.lt g hg).1)
        have hne2 : some wr.heap.size ≠ v1.ownBlock := fun h => by
          rcases hl1 _ h.symm with h' | h'
          · exact hne h'.symm
          · simp at h'
            omega
        have d2 : w2.cell? ⟨wr.heap.size, 1, none⟩ = some (.slice da data.length dc) := (hg2.cell_far _ hs1 hne2).trans d1
        have hs2 := hb2.size
        simp at hs2
        have hdr2 : BytesIn w2 (.slice da data.length dc) data := hdv0.mono (fun b' hb' => (hb2.block b' (by omega)).trans ((Below.heap_alloc _ _ _ (by simp; omega)).trans (Below.heap_alloc _ _ _ hb')))
        clear d1 hg1 hl1 hl2 hne hne2
        go_wp2_with (at_builtin; refine wpList_append_src _ rfl _ _ 38 38 rfl (w.heap.size + 2) 5 i0 (.int .u8 0) 1 1 Yba.underlying38 hi hz0 hz1 hz2 rfl _ _ _ rfl _ _ _ rfl ho2 hdr2.src ?b3 ?b4 ?b5 ?b6)
        case b3 => unfold maxLen; omega
        case b4 => omega
        case b5 => omega
        case b6 =>
          intro v3 w3 ho3 hg3 _ _
          have hb3 := hb2.grown hg3 (by omega) (fun g hg => (ho2.lt g hg).1)
          clear hg2 hg3 hdr2 hdv0 d2 hown ho1 ho2
          go_wp2
          go_roundw
          case rel =>
            have R := enc_step (w := w3) (v := v3) (B := w.heap.size + 2) rfl hoo (by simpa using ho3)
            first
              | exact ⟨k + 1, by omega, by go_num, R, hb3⟩
              | ((repeat apply Exists.intro); exact ⟨⟨k + 1, by omega, by go_num, R, hb3⟩, rfl⟩)
          case measure => simp [intOf]; omega
      · obtain rfl : k = os.length := by omega
        rw [List.take_length] at hown
        obtain ⟨a4, c4, rfl⟩ := ownsRow_shape hown
        have hB0 : Below w.heap.size w wr := (((Below.refl _ _).alloc (Nat.le_refl _) _).alloc (by simp) _).trans (hbel.mono (by omega))
        have hce : ∀ j, wr.cell? ⟨w.heap.size + 1, j, none⟩ = _ := fun j => hbel.cell (by simp)
        have hfr : ∀ j, wr.frozen? ⟨w.heap.size + 1, j, none⟩ = _ := fun j => hbel.frozen (by simp)
        have hc0 : ∀ j, wr.cell? ⟨w.heap.size, j, none⟩ = _ := fun j => hbel.cell (by simp)
        go_wp2
        refine bodyPost_ret (v := .agg #[.int .u8 2, .slice none 0 0, .slice none 0 0, .int .u16 41, .int .u16 udp, .int .u32 T, .slice a4 (encs os).length c4, .nilIface, .pointer (some ⟨w.heap.size, 0, none⟩)]) (by simp [results, Yba.results12, go_sem, hce, ttlOf, ttlD, hT.out]) rfl ⟨_, _, _, _, _, _, _, _, _, rfl, ?_, ?_⟩
        · refine ownsRow_lower (B := w.heap.size + 2) ?_ (by omega)
          iterate 9 (refine ownsRow_setCell_below ?_ (by simp) _)
          exact hown
        · iterate 9 (refine Below.setCell ?_ (by simp) _)
          exact hB0
end Go.Proofs.Ybulkbzsg

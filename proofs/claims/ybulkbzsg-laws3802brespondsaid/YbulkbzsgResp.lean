import Derived.Test.YbulkbzsgThe
namespace Go.Proofs.Ybulkbzsg
open Go.RowKit
set_option linter.unusedVariables false
set_option linter.unusedSimpArgs false
attribute [local go_sem ↓] Go.wp_at_zero Go.wp_at_succ

theorem RecsIn.mono {lo : Nat} {w w' : World} {G : Nat} {rs : List Rec} (h : RecsIn lo w G rs) (hb : ∀ b, b < w.heap.size → w'.heap[b]? = w.heap[b]?) : RecsIn lo w' G rs := by
  intro i r hi
  obtain ⟨cs, h1, h2⟩ := h i r hi
  have hm : Mid lo w w' := fun b _ hlt => hb b hlt
  exact ⟨cs, hm.cells h1, fun j u hj => (World.cell?_of_block (w := w) (hb _ (World.block_lt_of_cell? w _ (h2 j u hj)))).trans (h2 j u hj)⟩

/-- rcode, DO, limit of a reply with an OPT. -/
def respOf (rs : List Rec) : Int × Bool × Int :=
  match rs.filter (·.has) with
  | [r] => if faultOf rs ≠ 0 then (1, false, 512) else if 0 < r.ver then (16, false, 512) else (0, r.dO, limOf r.udp)
  | _ => (1, false, 512)

def RespEnd (rs : List Rec) (pay : Int) (w w' : World) (e : Ending) : Prop :=
  Below w.heap.size w w' ∧ (faultOf rs = 1 → e = .returned (.agg #[.int .u16 0, .pointer none, .int .i64 512])) ∧
    (faultOf rs ≠ 1 → ∃ g, e = .returned (.agg #[.int .u16 (respOf rs).1, .pointer (some ⟨g, 0, none⟩), .int .i64 (respOf rs).2.2]) ∧
      w'.heap[g]? = some (.cells #[.int .u16 pay, .int .u8 0, .int .u8 0, .bool (respOf rs).2.1, .int .u16 0, .slice none 0 0] 37 (0, 0)))

theorem resp_bad {rs : List Rec} (h : faultOf rs ≠ 0) : respOf rs = (1, false, 512) := by
  unfold respOf
  split
  · rw [if_pos h]
  · rfl
theorem resp_ver {rs : List Rec} {r : Rec} (h : faultOf rs = 0) (hr : rs.filter (·.has) = [r]) (hv : 0 < r.ver) : respOf rs = (16, false, 512) := by
  unfold respOf
  rw [hr]
  simp only
  rw [if_neg (by simpa using h), if_pos hv]
theorem resp_ok {rs : List Rec} {r : Rec} (h : faultOf rs = 0) (hr : rs.filter (·.has) = [r]) (hv : ¬ 0 < r.ver) : respOf rs = (0, r.dO, limOf r.udp) := by
  unfold respOf
  rw [hr]
  simp only
  rw [if_neg (by simpa using h), if_neg hv]

theorem heap_two (w : World) (o1 o2 : Obj) (H : Nat) (h : w.heap.size = H) : ((w.alloc o1).alloc o2).heap[H]? = some o1 := by
  rw [Below.heap_alloc _ _ _ (by simp; omega)]
  exact heap_new w o1 H h

set_option maxHeartbeats 400000 in
theorem resp_nil (pay : Int) (w : World) : Calls Yba.prog 7 #[.pointer none, .int .u16 pay] w fun e w' => e = .returned (.agg #[.int .u16 0, .pointer none, .int .i64 512]) ∧ Below w.heap.size w w' := by
  go_enter Yba.func7, Yba.ntmps7
  go_wp2_with (first | (go_at_call 9; refine (the_nil _).mono ?_; rintro e w1 ⟨rfl, rfl⟩) | (go_at_call 10; refine (udp_nil _).mono ?_; rintro e w1 ⟨rfl, rfl⟩))
  exact bodyPost_ret (v := .agg #[.int .u16 0, .pointer none, .int .i64 512]) (by simp [results, Yba.results7, go_sem]) rfl ⟨rfl, (Below.refl _ _).alloc (Nat.le_refl _) _⟩

set_option maxHeartbeats 1000000 in
set_option maxRecDepth 100000 in
theorem resp_walk (lo M G cap : Nat) (rs : List Rec) (pay : Int) (w : World) (hrs : ∀ r ∈ rs, RecWf r) (hlen : rs.length ≤ 1024) (hM : w.cell? ⟨M, 16, none⟩ = some (.slice (some ⟨G, 0, none⟩) rs.length cap)) (hG : RecsIn lo w G rs) :
    Calls Yba.prog 7 #[.pointer (some ⟨M, 0, none⟩), .int .u16 pay] w fun e w' => RespEnd rs pay w w' e := by
  have hMl : M < w.heap.size := World.block_lt_of_cell? w _ hM
  go_enter Yba.func7, Yba.ntmps7
  go_wp2_with fail
  refine (the_walk lo M G cap rs _ hrs hlen (by rw [World.cell?_alloc_past _ _ _ (by simpa using hMl)]; exact hM) (hG.mono (fun b hb => Below.heap_alloc _ _ _ hb))).mono ?_
  rintro e w1 ⟨p, rfl, hb1, hp1, hp2⟩
  obtain ⟨f, hf⟩ : ∃ f, Hid (f = faultOf rs) := ⟨_, rfl⟩
  rw [← hf.out] at hp1 hp2 ⊢
  have hs1 := hb1.size
  simp at hs1
  have hz : w.heap.size < w1.heap.size := by omega
  have hB0 : Below w.heap.size w w1 := ((Below.refl _ _).alloc (Nat.le_refl _) _).trans (hb1.mono (by simp))
  have hce : ∀ j, w1.cell? ⟨w.heap.size, j, none⟩ = _ := fun j => hb1.cell (by simp)
  have hfr : ∀ j, w1.frozen? ⟨w.heap.size, j, none⟩ = _ := fun j => hb1.frozen (by simp)
  by_cases h1 : f = 1
  · subst h1
    obtain rfl := hp1 (by omega)
    go_wp2_with (go_at_call 10; refine (udp_nil _).mono ?_; rintro e w1 ⟨rfl, rfl⟩)
    refine bodyPost_ret (v := .agg #[.int .u16 0, .pointer none, .int .i64 512]) (by simp [results, Yba.results7, go_sem, hce]) rfl ⟨?_, fun _ => rfl, fun h => absurd hf.out.symm h⟩
    iterate 3 (refine Below.setCell ?_ (by simp) _)
    exact hB0
  · by_cases h0 : f = 0
    · subst h0
      obtain ⟨r, pp, hr, rfl, hlo, og, oc, hog, hpc, hoo⟩ := hp2 rfl
      have hpl : pp < w1.heap.size := by have := heap_lt hpc; simp at this; omega
      have hpc1 := (hb1.block pp (heap_lt hpc)).trans hpc
      have p0 : w1.cell? ⟨pp, 0, none⟩ = some (.int .u16 r.udp) := by rw [cell_of_row w1 _ _ _ _ _ hpc1]; rfl
      have p2 : w1.cell? ⟨pp, 2, none⟩ = some (.int .u8 r.ver) := by rw [cell_of_row w1 _ _ _ _ _ hpc1]; rfl
      have p3 : w1.cell? ⟨pp, 3, none⟩ = some (.bool r.dO) := by rw [cell_of_row w1 _ _ _ _ _ hpc1]; rfl
      have hwf := hrs r (List.mem_filter.1 (show r ∈ rs.filter (·.has) by rw [hr]; simp)).1
      have hver := hwf.ver
      have hudp := hwf.udp
      have Hr := hid_mk hr
      clear hr hoo hpc hpc1 hp1 hp2
      by_cases hv : 0 < r.ver
      · go_wp2_with (go_at_call 10; refine (udp_nil _).mono ?_; rintro e w1 ⟨rfl, rfl⟩)
        refine bodyPost_ret (v := .agg #[.int .u16 16, .pointer (some ⟨w1.heap.size, 0, none⟩), .int .i64 512]) (by simp [results, Yba.results7, go_sem, hce, hz]) rfl ⟨?_, fun h => absurd (hf.out.trans h) h1, fun _ => ?_⟩
        · refine Below.alloc (Below.alloc ?_ (by simp; omega) _) (by simp; omega) _
          iterate 3 (refine Below.setCell ?_ (by simp) _)
          exact hB0
        · refine ⟨w1.heap.size, ?_, ?_⟩
          · rw [resp_ver hf.out.symm Hr.out hv]
          · rw [resp_ver hf.out.symm Hr.out hv]
            exact heap_two _ _ _ _ (by simp)
      · go_wp2_with (go_at_call 10; refine (udp_nil _).mono ?_; rintro e w1 ⟨rfl, rfl⟩)
        go_region
        go_wp2_with fail
        refine (udp_some pp r.udp _ hudp.1 hudp.2 (by show World.cell? (World.alloc (World.alloc w1 _) _) _ = _; rw [World.cell?_alloc_past _ _ _ (by simp; omega), World.cell?_alloc_past _ _ _ (by simpa using hpl)]; exact p0)).mono ?_
        rintro e w2 ⟨rfl, rfl⟩
        go_wp2
        refine bodyPost_ret (v := .agg #[.int .u16 0, .pointer (some ⟨w1.heap.size, 0, none⟩), .int .i64 (limOf r.udp)]) (by simp [results, Yba.results7, go_sem, hce, hz]) rfl ⟨?_, fun h => absurd (hf.out.trans h) h1, fun _ => ?_⟩
        · refine Below.drew (Below.alloc (Below.alloc ?_ (by simp; omega) _) (by simp; omega) _)
          iterate 3 (refine Below.setCell ?_ (by simp) _)
          exact hB0
        · refine ⟨w1.heap.size, ?_, ?_⟩
          · rw [resp_ok hf.out.symm Hr.out (by omega)]
          · rw [resp_ok hf.out.symm Hr.out (by omega)]
            exact heap_two _ _ _ _ (by simp)
    · obtain rfl := hp1 h0
      have h1' : (f == 1) = false := by simpa using h1
      have h0' : (f != 0) = true := by simpa using h0
      go_wp2_with (go_at_call 10; refine (udp_nil _).mono ?_; rintro e w1 ⟨rfl, rfl⟩)
      refine bodyPost_ret (v := .agg #[.int .u16 1, .pointer (some ⟨w1.heap.size, 0, none⟩), .int .i64 512]) (by simp [results, Yba.results7, go_sem, hce, hz]) rfl ⟨?_, fun h => absurd (hf.out.trans h) h1, fun _ => ?_⟩
      · refine Below.alloc (Below.alloc ?_ (by simp; omega) _) (by simp; omega) _
        iterate 3 (refine Below.setCell ?_ (by simp) _)
        exact hB0
      · refine ⟨w1.heap.size, ?_, ?_⟩
        · rw [resp_bad (by rw [← hf.out]; exact h0)]
        · rw [resp_bad (by rw [← hf.out]; exact h0)]
          exact heap_two _ _ _ _ (by simp)
end Go.Proofs.Ybulkbzsg

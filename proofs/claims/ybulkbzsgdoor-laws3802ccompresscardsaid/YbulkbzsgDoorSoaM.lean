import Derived.Test.YbulkbzsgDoorCn
namespace Go.Proofs.YbulkbzsgDoor
open Go.RowKit
set_option linter.unusedVariables false
set_option linter.unusedSimpArgs false

theorem comp_len (ss : List ByteArray) : ∀ (f : Tab) (off : Nat), (comp f ss off).1.length ≤ (wireB ss).length + 2 := by
  induction ss with
  | nil => intro f off; simp [comp, wireB]
  | cons s t ih =>
    intro f off
    rw [wireB_len_cons]
    cases h : f (nameK (s :: t)) with
    | some c => simp [comp, h, ptrB]
    | none =>
      have := ih (put f (nameK (s :: t)) off) (off + (1 + s.size))
      simp only [comp, h, List.length_append, List.length_cons, bytesI_len]
      omega

theorem tab_range (ss : List ByteArray) : ∀ (f : Tab) (off : Nat) (k : List UInt8) (c : Int), tab f ss off k = some c → f k = some c ∨ ((off : Int) ≤ c ∧ c ≤ off + (wireB ss).length) := by
  induction ss with
  | nil => intro f off k c h; exact .inl h
  | cons s t ih =>
    intro f off k c h
    rw [wireB_len_cons]
    rcases ih _ _ _ _ h with h' | h'
    · unfold put at h'
      split at h'
      · right; cases h'; omega
      · exact .inl h'
    · right; omega

abbrev tab0 (ms : List ByteArray) (off : Nat) : Tab := tab (fun _ => none) ms off
def outR (L : Nat) (ms rs : List ByteArray) : List Int := (comp (tab0 ms L) rs (L + (wireB ms).length + 1)).1
def cntR (L : Nat) (ms rs : List ByteArray) : Nat := (comp (tab0 ms L) rs (L + (wireB ms).length + 1)).2.2
def tabR (L : Nat) (ms rs : List ByteArray) : Tab := (comp (tab0 ms L) rs (L + (wireB ms).length + 1)).2.1

set_option maxHeartbeats 1000000 in
set_option maxRecDepth 100000 in
theorem soa_map (B : Nat) (v0 : Value) (xs0 : List Int) (row : Option Nat) (ma ra : Option Addr) (mc rc : Nat) (ms rs : List ByteArray) (n1 n2 n3 n4 n5 : Int) (E1 E2 E3 : Value) (bm : Nat) (w : World) (hE : Errs E1 E2 E3 w) (hB : 4 ≤ B) (hBw : B ≤ w.heap.size)
    (hms : StrsIn B w ma ms) (hrs : StrsIn B w ra rs) (hml : ms.length ≤ 1024) (hrl : rs.length ≤ 1024) (hxl : xs0.length ≤ 1024) (hown : w.ownsRow B 5 1 v0 xs0.length (xs0.map (Value.int .u8))) (hrow : RowOk row v0 xs0.length)
    (h1 : 0 ≤ n1 ∧ n1 ≤ 4294967295) (h2 : 0 ≤ n2 ∧ n2 ≤ 4294967295) (h3 : 0 ≤ n3 ∧ n3 ≤ 4294967295) (h4 : 0 ≤ n4 ∧ n4 ≤ 4294967295) (h5 : 0 ≤ n5 ∧ n5 ≤ 4294967295)
    (hn : ∀ k, 0 < k → ∃ t x, errV E1 E2 E3 k = .iface t x) (hmap : MapIs w bm (fun _ => none) 0) (hbr : some bm ≠ row) (hbB : B ≤ bm) (hbw : bm < w.heap.size) :
    Calls Ybad.prog 5 #[.agg #[.slice ma ms.length mc, .slice ra rs.length rc, .int .u32 n1, .int .u32 n2, .int .u32 n3, .int .u32 n4, .int .u32 n5], v0, .map (some bm)] w fun e w' => ∃ v', e = .returned (.tuple #[v', errV E1 E2 E3 (soaErr ms rs)]) ∧ G2 w w' row bm ∧
      (soaErr ms rs ≠ 0 → v' = .slice none 0 0) ∧ (nameErr 1 ms ≠ 0 → ∃ f, MapIs w' bm f 0) ∧ (nameErr 1 ms = 0 → nameErr 1 rs ≠ 0 → ∃ f, MapIs w' bm f ms.length) ∧
      (soaErr ms rs = 0 → w'.ownsRow B 5 1 v' (xs0 ++ (wireB ms ++ [0]) ++ outR xs0.length ms rs ++ tailB n1 n2 n3 n4 n5).length ((xs0 ++ (wireB ms ++ [0]) ++ outR xs0.length ms rs ++ tailB n1 n2 n3 n4 n5).map (Value.int .u8)) ∧ ∃ f, MapIs w' bm f (ms.length + cntR xs0.length ms rs)) := by
  have hrowB : ∀ g, row = some g → B ≤ g := fun g hg => by
    rcases hrow with h | ⟨h, _⟩
    · exact (hown.lt g (by rw [← h, hg])).1
    · rw [h] at hg; cases hg
  have hrowS : ∀ g, row = some g → g < w.heap.size := fun g hg => by
    rcases hrow with h | ⟨h, _⟩
    · exact (hown.lt g (by rw [← h, hg])).2
    · rw [h] at hg; cases hg
  go_enter Ybad.func5, Ybad.ntmps5
  go_wp2
  go_loopw [1, 8, 19] (fun v er i wr => ∃ (k : Nat) (X : List Int), k ≤ 2 ∧ i = .int .i64 k ∧ X.length ≤ 1024 + 256 * k ∧
      ((k = 0 ∧ X = xs0 ∧ v = v0 ∧ MapIs wr bm (fun _ => none) 0) ∨ (k = 1 ∧ nameErr 1 ms = 0 ∧ X = xs0 ++ (wireB ms ++ [0]) ∧ MapIs wr bm (tab0 ms xs0.length) ms.length ∧ ∀ g, v.ownBlock = some g → some g = row ∨ w.heap.size + 2 ≤ g) ∨
        (k = 2 ∧ nameErr 1 ms = 0 ∧ nameErr 1 rs = 0 ∧ X = xs0 ++ (wireB ms ++ [0]) ++ outR xs0.length ms rs ∧ MapIs wr bm (tabR xs0.length ms rs) (ms.length + cntR xs0.length ms rs) ∧ ∀ g, v.ownBlock = some g → some g = row ∨ w.heap.size + 2 ≤ g)) ∧
      wr.ownsRow B 5 1 v X.length (X.map (Value.int .u8)) ∧ G2 w wr row bm ∧
      (∀ b, w.heap.size ≤ b → b < w.heap.size + 2 → wr.heap[b]? = ((w.alloc (.cells #[.slice ma ms.length mc, .slice ra rs.length rc, .int .u32 n1, .int .u32 n2, .int .u32 n3, .int .u32 n4, .int .u32 n5] 27)).alloc (.cells #[.slice ma ms.length mc, .slice ra rs.length rc] 25)).heap[b]?) ∧ w.heap.size + 2 ≤ wr.heap.size)
    (fun _ _ i _ => 2 - (intOf i).toNat)
  case atStart =>
    refine ⟨0, xs0, by omega, rfl, by omega, .inl ⟨rfl, rfl, rfl, (hmap.kept (Below.heap_alloc _ _ _ hbw)).kept (Below.heap_alloc _ _ _ (by simp; omega))⟩, (hown.alloc _).alloc _, ?_, fun b _ _ => rfl, by simp⟩
    exact G2.of_grown ((World.grownBy_alloc _ _ _).trans (World.grownBy_alloc _ _ _))
  case round =>
    obtain ⟨k, X, hk, rfl, hXl, hX, hxo, hg2, hkeep, hsz⟩ := hrel
    have hbBw : ∀ b, b < B → wr.heap[b]? = w.heap[b]? := fun b hb => hg2.block b (by omega) (fun e => by have := hrowB b e.symm; omega) (by omega)
    have hEr := hE.mono hB hbBw
    have hmr := hms.mono hbBw
    have hrr := hrs.mono hbBw
    have cS : ∀ j, wr.cell? ⟨w.heap.size, j, none⟩ = _ := fun j => World.cell?_of_block (a := ⟨w.heap.size, j, none⟩) (hkeep _ (by simp) (by simp))
    have cT : ∀ j, wr.cell? ⟨w.heap.size + 1, j, none⟩ = _ := fun j => World.cell?_of_block (a := ⟨w.heap.size + 1, j, none⟩) (hkeep _ (by simp) (by simp))
    have HK := hid_mk hkeep
    clear hkeep hbBw
    rcases hX with ⟨rfl, rfl, rfl, hmp⟩ | ⟨rfl, hm0, hXe, hmp, hloc⟩ | ⟨rfl, hm0, hr0, hXe, hmp, hloc⟩
    · go_wp2_with fail
      refine (cn_map B _ X row ma mc ms E1 E2 E3 bm 0 _ wr hEr hB (by omega) hmr hml (by omega) hxo hrow hn hmp (by omega) hbr hbB (by omega) (fun s c h => by cases h)).mono ?_
      rintro e w1 ⟨v1, rfl, hg1, hm1, hb1⟩
      have hs1 := hg1.size
      have hG : G2 w w1 row bm := hg2.trans hg1 (fun g hg => .inl hg.symm)
      obtain ⟨k, hk'⟩ : ∃ k, Hid (k = nameErr 1 ms) := ⟨_, rfl⟩
      rw [← hk'.out] at hb1 hm1 ⊢
      cases k with
      | zero =>
        have h0 : errV E1 E2 E3 0 = .nilIface := rfl
        rw [h0]
        obtain ⟨hB1, hB2, hB3⟩ := hb1 rfl
        have hcf := comp_fresh ms (fun _ => none) X.length (fun _ _ => rfl)
        rw [hcf] at hB1 hB3
        simp only [Nat.zero_add] at hB1 hB3
        have hwl := wire_len ms hk'.out.symm
        have HB1 := hid_mk hB1
        clear h0 hb1 cS cT hcf hB1
        go_wp2
        go_roundw
        case rel =>
          refine ⟨1, _, by omega, rfl, ?_, .inr (.inl ⟨rfl, hk'.out.symm, rfl, hB3, ?_⟩), HB1.out, hG, ?_, by omega⟩
          · simp only [List.length_append, List.length_cons, List.length_nil]; omega
          · intro g hg
            rcases hB2 g hg with h' | h'
            · exact .inl h'
            · right; omega
          · intro b hb1' hb2'
            refine (hg1.block b (by omega) (fun e => ?_) (by omega)).trans (HK.out b hb1' hb2')
            have := hrowS b e.symm
            omega
        case measure => simp [intOf]
      | succ k =>
        obtain ⟨t, x, hx⟩ := hn (k + 1) (by omega)
        have Hx := hid_mk hx
        rw [hx]
        have HM1 := hid_mk (hm1 (by omega))
        clear hx hb1 hm1
        go_wp2
        go_ret2
        have hse : soaErr ms rs = k + 1 := by unfold soaErr; rw [← hk'.out, if_neg (by omega)]
        exact ⟨_, by rw [hse, Hx.out]; rfl, hG, fun _ => rfl, fun _ => ⟨_, HM1.out⟩, (fun h => by rw [← hk'.out] at h; cases h), fun h => by rw [hse] at h; cases h⟩
    · have HXe := hid_mk hXe
      have HM := hid_mk hm0
      have hwl := wire_len ms hm0
      have HXL : Hid (X.length = xs0.length + (wireB ms).length + 1) := hid_mk (by rw [hXe]; simp; omega)
      have hur : some bm ≠ u1.ownBlock := fun e => by
        rcases hloc bm e.symm with h | h
        · exact hbr h
        · omega
      clear hXe hm0
      go_wp2_with fail
      refine (cn_map B u1 X u1.ownBlock ra rc rs E1 E2 E3 bm ms.length _ wr hEr hB (by omega) hrr hrl (by omega) hxo (.inl rfl) hn hmp (by omega) hur hbB (by omega) (fun s c h => by
        rcases tab_range _ _ _ _ _ h with h' | h'
        · cases h'
        · omega)).mono ?_
      rintro e w1 ⟨v1, rfl, hg1, hm1, hb1⟩
      have hs1 := hg1.size
      have hG : G2 w w1 row bm := hg2.trans hg1 (fun g hg => by
        rcases hloc g hg with h | h
        · exact .inl h
        · right; right; omega)
      obtain ⟨k, hk'⟩ : ∃ k, Hid (k = nameErr 1 rs) := ⟨_, rfl⟩
      rw [← hk'.out] at hb1 hm1 ⊢
      cases k with
      | zero =>
        have h0 : errV E1 E2 E3 0 = .nilIface := rfl
        rw [h0]
        obtain ⟨hB1, hB2, hB3⟩ := hb1 rfl
        rw [HXL.out] at hB1 hB3
        have hwr := wire_len rs hk'.out.symm
        have hcl : (outR xs0.length ms rs).length ≤ (wireB rs).length + 2 := comp_len rs _ _
        have HB1 := hid_mk hB1
        have HB3 := hid_mk hB3
        clear h0 hb1 cS cT hB1 hB3
        go_wp2
        go_roundw
        case rel =>
          refine ⟨2, _, by omega, rfl, ?_, .inr (.inr ⟨rfl, HM.out, hk'.out.symm, rfl, HB3.out, ?_⟩), ?_, hG, ?_, by omega⟩
          · rw [← HXe.out]; simp only [List.length_append]; omega
          · intro g hg
            rcases hB2 g hg with h' | h'
            · exact hloc g h'.symm
            · right; omega
          · rw [← HXe.out]; exact HB1.out
          · intro b hb1' hb2'
            refine (hg1.block b (by omega) (fun e => ?_) (by omega)).trans (HK.out b hb1' hb2')
            rcases hloc b e.symm with h | h
            · have := hrowS b h.symm; omega
            · omega
        case measure => simp [intOf]
      | succ k =>
        obtain ⟨t, x, hx⟩ := hn (k + 1) (by omega)
        have Hx := hid_mk hx
        rw [hx]
        have HM1 := hid_mk (hm1 (by omega))
        clear hx hb1 hm1
        go_wp2
        go_ret2
        have hse : soaErr ms rs = k + 1 := by unfold soaErr; rw [if_pos HM.out, ← hk'.out]
        exact ⟨_, by rw [hse, Hx.out]; rfl, hG, fun _ => rfl, fun h => absurd HM.out h, fun _ _ => ⟨_, HM1.out⟩, fun h => by rw [hse] at h; cases h⟩
    · have HXe := hid_mk hXe
      have HS : Hid (soaErr ms rs = 0) := by unfold soaErr; rw [if_pos hm0]; exact hid_mk hr0
      have HMR := hid_mk (And.intro hm0 hr0)
      have hur : ∀ g, u1.ownBlock = some g → g ≠ bm := fun g hg e => by
        rcases hloc g hg with h | h
        · exact hbr (by rw [← e]; exact h)
        · omega
      clear hXe hm0 hr0
      obtain ⟨wn, hwn⟩ : ∃ x, x = wr := ⟨_, rfl⟩
      subst hwn
      obtain ⟨vT, hvT⟩ : ∃ x, x = u1 := ⟨_, rfl⟩
      subst hvT
      go_wp2
      clear cS cT
      go_loopw [1, 46] (fun v i wq => ∃ k : Nat, k ≤ 5 ∧ i = .int .i64 k ∧ Buf B wn vT.ownBlock vT X.length v (X ++ ((nums n1 n2 n3 n4 n5).take k).flatMap be32) wq ∧ (∀ g, v.ownBlock = some g → g ≠ wn.heap.size) ∧
          (∀ j, j < 5 → wq.cell? ⟨wn.heap.size, j, none⟩ = some (.int .u32 ((nums n1 n2 n3 n4 n5).getD j 0))) ∧ wn.heap.size < wq.heap.size)
        (fun _ i _ => 5 - (intOf i).toNat)
      case atStart =>
        refine ⟨0, by omega, rfl, ⟨?_, ?_, .inl ⟨rfl, by simp⟩⟩, fun g hg e => ?_, fun j hj => ?_, by simp⟩
        · simpa using hxo.alloc _
        · exact World.grownBy_alloc _ _ _
        · have := (hxo.lt g hg).2; omega
        · match j, hj with
          | 0, _ => simp [nums]
          | 1, _ => simp [nums]
          | 2, _ => simp [nums]
          | 3, _ => simp [nums]
          | 4, _ => simp [nums]
      case round =>
        obtain ⟨k, hk5, rfl, hbk, hgk, hck, hsk⟩ := hrel
        have hss := hbk.grown.size
        by_cases hlt : k < 5
        · have hx := nums_bound n1 n2 n3 n4 n5 h1 h2 h3 h4 h5 k
          have ck := hck k hlt
          have HT := hid_mk (nums_take n1 n2 n3 n4 n5 k hlt)
          have hcl := nums_len n1 n2 n3 n4 n5 k hk5
          obtain ⟨x, hxe⟩ : ∃ x, Hid (x = (nums n1 n2 n3 n4 n5).getD k 0) := ⟨_, rfl⟩
          obtain ⟨Y, hY⟩ : ∃ Y, Hid (Y = X ++ ((nums n1 n2 n3 n4 n5).take k).flatMap be32) := ⟨_, rfl⟩
          have hYl : Y.length ≤ 1000000 := by rw [hY.out, List.length_append]; omega
          rw [← hxe.out] at hx ck
          rw [← hY.out] at hbk
          have HCK := hid_mk hck
          clear hck
          go_wp2_with fail
          refine (au32 B wn vT.ownBlock vT X.length u1 Y x wr hbk (.inl rfl) hx.1 hx.2 (by omega) (by omega)).mono ?_
          rintro e w1 ⟨v1, rfl, hb1, hg1, hl1⟩
          have hs1 := hg1.size
          have hb2 : Hid (Buf B wn vT.ownBlock vT X.length v1 (X ++ ((nums n1 n2 n3 n4 n5).take (k + 1)).flatMap be32) w1) := by
            rw [hY.out, hxe.out, List.append_assoc] at hb1
            rw [HT.out]
            exact hid_mk hb1
          clear hb1 ck
          go_wp2
          go_roundw
          case rel =>
            have L1 : ∀ g, v1.ownBlock = some g → g ≠ wn.heap.size := fun g hg e => by
              rcases hl1 g hg with h | h
              · exact hgk g h e
              · omega
            have L2 : ∀ j, j < 5 → w1.cell? ⟨wn.heap.size, j, none⟩ = some (.int .u32 ((nums n1 n2 n3 n4 n5).getD j 0)) := fun j hj => by
              rw [hg1.cell_far ⟨wn.heap.size, j, none⟩ hsk (fun e => hgk _ e.symm rfl)]
              exact HCK.out j hj
            first
              | exact ⟨k + 1, by omega, by go_num, hb2.out, L1, L2, by omega⟩
              | ((repeat apply Exists.intro); exact ⟨⟨k + 1, by omega, by go_num, hb2.out, L1, L2, by omega⟩, rfl⟩)
          case measure => simp [intOf]; omega
        · obtain rfl : k = 5 := by omega
          have hb5 : Hid (Buf B wn vT.ownBlock vT X.length u1 (X ++ tailB n1 n2 n3 n4 n5) wr) := by
            rw [← nums_tail]; exact hid_mk hbk
          clear hbk hck
          go_wp2
          go_ret2
          refine ⟨_, by rw [HS.out]; rfl, ?_, fun h => absurd HS.out h, fun h => absurd HMR.out.1 h, fun _ h => absurd HMR.out.2 h, fun _ => ⟨?_, _, hmp.kept (hb5.out.grown.block bm (by omega) (fun e => hur bm e.symm rfl))⟩⟩
          · exact hg2.step hb5.out.grown (fun g hg => by
              rcases hloc g hg with h | h
              · exact .inl h
              · right; right; omega)
          · have := hb5.out.own
            rw [HXe.out] at this
            exact this
end Go.Proofs.YbulkbzsgDoor

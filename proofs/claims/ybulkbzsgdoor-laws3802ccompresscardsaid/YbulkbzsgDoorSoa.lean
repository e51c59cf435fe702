import Derived.Test.YbulkbzsgDoorNum
import Derived.WalkSpells
namespace Go.Proofs.YbulkbzsgDoor
open Go.RowKit
set_option linter.unusedVariables false
set_option linter.unusedSimpArgs false

theorem Errs.mono {E1 E2 E3 : Value} {w w' : World} {B : Nat} (h : Errs E1 E2 E3 w) (hB : 4 ≤ B) (hb : ∀ b, b < B → w'.heap[b]? = w.heap[b]?) : Errs E1 E2 E3 w' :=
  ⟨(World.cell?_of_block (w := w) (a := ⟨1, 0, none⟩) (hb 1 (by omega))).trans h.e1, (World.cell?_of_block (w := w) (a := ⟨2, 0, none⟩) (hb 2 (by omega))).trans h.e2, (World.cell?_of_block (w := w) (a := ⟨3, 0, none⟩) (hb 3 (by omega))).trans h.e3⟩

theorem Buf.rebase {B : Nat} {w w1 w2 : World} {row : Option Nat} {v0 v : Value} {n0 : Nat} {xs : List Int} (hg : w.grownBy w1 row) (h : Buf B w1 row v0 n0 v xs w2) : Buf B w row v0 n0 v xs w2 := by
  have hs := hg.size
  refine ⟨h.own, ?_, ?_⟩
  · exact grown_two hg h.grown (fun g hg => .inl hg.symm)
  · rcases h.loc with h' | h'
    · exact .inl h'
    · right
      intro g hg'
      rcases h' g hg' with h'' | h''
      · exact .inl h''
      · right; omega

theorem Buf.trans {B : Nat} {w w1 w2 : World} {row : Option Nat} {v0 v1 v2 : Value} {n0 : Nat} {X1 X2 : List Int} (h1 : Buf B w row v0 n0 v1 X1 w1) (hl : n0 < X1.length) (h2 : Buf B w1 v1.ownBlock v1 X1.length v2 X2 w2) : Buf B w row v0 n0 v2 X2 w2 := by
  have hs := h1.grown.size
  have hloc : ∀ g, v1.ownBlock = some g → some g = row ∨ w.heap.size ≤ g := by
    rcases h1.loc with ⟨_, h⟩ | h
    · omega
    · exact h
  refine ⟨h2.own, grown_two h1.grown h2.grown hloc, .inr fun g hg => ?_⟩
  rcases h2.loc with ⟨rfl, _⟩ | h
  · exact hloc g hg
  · rcases h g hg with h' | h'
    · exact hloc g h'.symm
    · right; omega

set_option maxHeartbeats 400000 in
theorem cn_nil (B : Nat) (v0 : Value) (xs0 : List Int) (row : Option Nat) (na : Option Addr) (nc : Nat) (ss : List ByteArray) (E1 E2 E3 : Value) (w : World) (hE : Errs E1 E2 E3 w) (hB : 4 ≤ B) (hBw : B ≤ w.heap.size)
    (hss : StrsIn B w na ss) (hlen : ss.length ≤ 1024) (hxl : xs0.length ≤ 1000000) (hown : w.ownsRow B 5 1 v0 xs0.length (xs0.map (Value.int .u8))) (hrow : RowOk row v0 xs0.length)
    (hn : ∀ k, 0 < k → ∃ t x, errV E1 E2 E3 k = .iface t x) :
    Calls Ybad.prog 11 #[.map none, v0, .slice na ss.length nc] w fun e w' => ∃ v', e = .returned (.tuple #[v', errV E1 E2 E3 (nameErr 1 ss)]) ∧ w.grownBy w' row ∧
      (nameErr 1 ss = 0 → Buf B w row v0 xs0.length v' (xs0 ++ (wireB ss ++ [0])) w') := by
  obtain ⟨a0, c0, rfl⟩ := ownsRow_shape hown
  go_enter Ybad.func11, Ybad.ntmps11
  go_wp2_with fail
  refine (an_walk B _ xs0 row na nc ss E1 E2 E3 w hE hB hBw hss hlen hxl hown hrow).mono ?_
  rintro e w' ⟨v', rfl, hg, hbuf⟩
  obtain ⟨k, hk⟩ : ∃ k, Hid (k = nameErr 1 ss) := ⟨_, rfl⟩
  rw [← hk.out] at hbuf ⊢
  cases k with
  | zero =>
    have h0 : errV E1 E2 E3 0 = .nilIface := rfl
    rw [h0]
    have hm := fun w => run_eql_map_nil (P := Ybad.prog) w 38 9 3 none Ybad.underlying38
    clear h0
    go_wp2
    go_ret2
    exact ⟨v', by rw [← hk.out]; rfl, hg, fun _ => hbuf trivial⟩
  | succ k =>
    obtain ⟨t, x, hx⟩ := hn (k + 1) (by omega)
    have Hx := hid_mk hx
    rw [hx]
    clear hx
    go_wp2
    go_ret2
    exact ⟨v', by rw [← hk.out, Hx.out]; rfl, hg, fun h => by rw [← hk.out] at h; cases h⟩

theorem wire_len_aux (ss : List ByteArray) : ∀ sz, sz ≤ 255 → nameErr sz ss = 0 → sz + (wireB ss).length ≤ 255 := by
  induction ss with
  | nil => intro sz h _; simpa [wireB] using h
  | cons s t ih =>
    intro sz h he
    unfold nameErr at he
    split at he
    · cases he
    · split at he
      · cases he
      · split at he
        · cases he
        · have := ih (sz + (1 + s.size)) (by omega) he
          simp only [wireB, List.length_append, List.length_cons, bytesI_len]
          omega
theorem wire_len (ss : List ByteArray) (h : nameErr 1 ss = 0) : (wireB ss).length ≤ 254 := by
  have := wire_len_aux ss 1 (by omega) h
  omega

def soaErr (m r : List ByteArray) : Nat := if nameErr 1 m = 0 then nameErr 1 r else nameErr 1 m
def nums (a b c d e : Int) : List Int := [a, b, c, d, e]
theorem nums_tail (a b c d e : Int) : (nums a b c d e).flatMap be32 = tailB a b c d e := by simp [nums, tailB]

theorem nums_bound (n1 n2 n3 n4 n5 : Int) (h1 : 0 ≤ n1 ∧ n1 ≤ 4294967295) (h2 : 0 ≤ n2 ∧ n2 ≤ 4294967295) (h3 : 0 ≤ n3 ∧ n3 ≤ 4294967295) (h4 : 0 ≤ n4 ∧ n4 ≤ 4294967295) (h5 : 0 ≤ n5 ∧ n5 ≤ 4294967295) (k : Nat) :
    0 ≤ (nums n1 n2 n3 n4 n5).getD k 0 ∧ (nums n1 n2 n3 n4 n5).getD k 0 ≤ 4294967295 := by
  match k with
  | 0 => exact h1
  | 1 => exact h2
  | 2 => exact h3
  | 3 => exact h4
  | 4 => exact h5
  | n + 5 => simp [nums]
theorem nums_take (n1 n2 n3 n4 n5 : Int) (k : Nat) (h : k < 5) : ((nums n1 n2 n3 n4 n5).take (k + 1)).flatMap be32 = ((nums n1 n2 n3 n4 n5).take k).flatMap be32 ++ be32 ((nums n1 n2 n3 n4 n5).getD k 0) := by
  match k, h with
  | 0, _ => simp [nums]
  | 1, _ => simp [nums]
  | 2, _ => simp [nums]
  | 3, _ => simp [nums]
  | 4, _ => simp [nums]
theorem nums_len (n1 n2 n3 n4 n5 : Int) (k : Nat) (h : k ≤ 5) : (((nums n1 n2 n3 n4 n5).take k).flatMap be32).length ≤ 20 := by
  match k, h with
  | 0, _ => simp [nums, be32]
  | 1, _ => simp [nums, be32]
  | 2, _ => simp [nums, be32]
  | 3, _ => simp [nums, be32]
  | 4, _ => simp [nums, be32]
  | 5, _ => simp [nums, be32]

set_option maxHeartbeats 1000000 in
set_option maxRecDepth 100000 in
theorem soa_nil (B : Nat) (v0 : Value) (xs0 : List Int) (row : Option Nat) (ma ra : Option Addr) (mc rc : Nat) (ms rs : List ByteArray) (n1 n2 n3 n4 n5 : Int) (E1 E2 E3 : Value) (w : World) (hE : Errs E1 E2 E3 w) (hB : 4 ≤ B) (hBw : B ≤ w.heap.size)
    (hms : StrsIn B w ma ms) (hrs : StrsIn B w ra rs) (hml : ms.length ≤ 1024) (hrl : rs.length ≤ 1024) (hxl : xs0.length ≤ 900000) (hown : w.ownsRow B 5 1 v0 xs0.length (xs0.map (Value.int .u8))) (hrow : RowOk row v0 xs0.length)
    (h1 : 0 ≤ n1 ∧ n1 ≤ 4294967295) (h2 : 0 ≤ n2 ∧ n2 ≤ 4294967295) (h3 : 0 ≤ n3 ∧ n3 ≤ 4294967295) (h4 : 0 ≤ n4 ∧ n4 ≤ 4294967295) (h5 : 0 ≤ n5 ∧ n5 ≤ 4294967295)
    (hn : ∀ k, 0 < k → ∃ t x, errV E1 E2 E3 k = .iface t x) :
    Calls Ybad.prog 5 #[.agg #[.slice ma ms.length mc, .slice ra rs.length rc, .int .u32 n1, .int .u32 n2, .int .u32 n3, .int .u32 n4, .int .u32 n5], v0, .map none] w fun e w' => ∃ v', e = .returned (.tuple #[v', errV E1 E2 E3 (soaErr ms rs)]) ∧ w.grownBy w' row ∧
      (soaErr ms rs ≠ 0 → v' = .slice none 0 0) ∧ (soaErr ms rs = 0 → Buf B w row v0 xs0.length v' (xs0 ++ (wireB ms ++ [0]) ++ (wireB rs ++ [0]) ++ tailB n1 n2 n3 n4 n5) w') := by
  have hrowB : ∀ g, row = some g → B ≤ g := fun g hg => by
    rcases hrow with h | ⟨h, _⟩
    · exact (hown.lt g (by rw [← h, hg])).1
    · rw [h] at hg; cases hg
  go_enter Ybad.func5, Ybad.ntmps5
  go_wp2
  go_loopw [1, 8, 19] (fun v er i wr => ∃ (k : Nat) (X : List Int), k ≤ 2 ∧ i = .int .i64 k ∧ X.length ≤ 900000 + 256 * k ∧ ((k = 0 ∧ X = xs0 ∧ v = v0) ∨ (k = 1 ∧ nameErr 1 ms = 0 ∧ X = xs0 ++ (wireB ms ++ [0])) ∨ (k = 2 ∧ nameErr 1 ms = 0 ∧ nameErr 1 rs = 0 ∧ X = xs0 ++ (wireB ms ++ [0]) ++ (wireB rs ++ [0]))) ∧
      Buf B w row v0 xs0.length v X wr ∧ (∀ g, v.ownBlock = some g → g < w.heap.size ∨ w.heap.size + 2 ≤ g) ∧
      (∀ b, w.heap.size ≤ b → b < w.heap.size + 2 → wr.heap[b]? = ((w.alloc (.cells #[.slice ma ms.length mc, .slice ra rs.length rc, .int .u32 n1, .int .u32 n2, .int .u32 n3, .int .u32 n4, .int .u32 n5] 27)).alloc (.cells #[.slice ma ms.length mc, .slice ra rs.length rc] 25)).heap[b]?) ∧ w.heap.size + 2 ≤ wr.heap.size)
    (fun _ _ i _ => 2 - (intOf i).toNat)
  case atStart =>
    refine ⟨0, xs0, by omega, rfl, by omega, .inl ⟨rfl, rfl, rfl⟩, ⟨(hown.alloc _).alloc _, ?_, .inl ⟨rfl, rfl⟩⟩, fun g hg => .inl (hown.lt g hg).2, fun b _ _ => rfl, by simp⟩
    exact ((World.grownBy_alloc _ _ _).trans (World.grownBy_alloc _ _ _))
  case round =>
    obtain ⟨k, X, hk, rfl, hXl, hX, hbuf, hvl, hkeep, hsz⟩ := hrel
    have hbB := below_of_grown hbuf.grown hBw hrowB
    have hEr := hE.mono hB hbB
    have hmr := hms.mono hbB
    have hrr := hrs.mono hbB
    have cS : ∀ j, wr.cell? ⟨w.heap.size, j, none⟩ = _ := fun j => World.cell?_of_block (a := ⟨w.heap.size, j, none⟩) (hkeep _ (by simp) (by simp))
    have cT : ∀ j, wr.cell? ⟨w.heap.size + 1, j, none⟩ = _ := fun j => World.cell?_of_block (a := ⟨w.heap.size + 1, j, none⟩) (hkeep _ (by simp) (by simp))
    have HK := hid_mk hkeep
    clear hkeep hbB
    rcases hX with ⟨rfl, rfl, rfl⟩ | ⟨rfl, hm0, hXe⟩ | ⟨rfl, hm0, hr0, hXe⟩
    · go_wp2_with fail
      refine (cn_nil B _ X row ma mc ms E1 E2 E3 wr hEr hB (by omega) hmr hml (by omega) hbuf.own hrow hn).mono ?_
      rintro e w1 ⟨v1, rfl, hg1, hb1⟩
      obtain ⟨k, hk'⟩ : ∃ k, Hid (k = nameErr 1 ms) := ⟨_, rfl⟩
      rw [← hk'.out] at hb1 ⊢
      cases k with
      | zero =>
        have h0 : errV E1 E2 E3 0 = .nilIface := rfl
        rw [h0]
        have hB1 := hb1 rfl
        have hbw := Buf.rebase hbuf.grown hB1
        have hwl := wire_len ms hk'.out.symm
        clear h0 hb1 cS cT
        go_wp2
        go_roundw
        case rel =>
          refine ⟨1, _, by omega, rfl, ?_, .inr (.inl ⟨rfl, hk'.out.symm, rfl⟩), hbw, ?_, ?_, ?_⟩
          · simp only [List.length_append, List.length_cons, List.length_nil]; omega
          · intro g hg
            rcases hB1.loc with ⟨_, h⟩ | h
            · simp at h
            · rcases h g hg with h' | h'
              · left
                rcases hrow with hr | ⟨hr, _⟩
                · exact (hown.lt g (by rw [← hr, h'])).2
                · rw [hr] at h'; cases h'
              · right; omega
          · intro b hb1' hb2'
            refine (hg1.block b (by omega) (fun e => ?_)).trans (HK.out b hb1' hb2')
            rcases hrow with hr | ⟨hr, _⟩
            · have := (hown.lt b (by rw [← hr, e])).2; omega
            · rw [hr] at e; cases e
          · have := hg1.size; omega
        case measure => simp [intOf]
      | succ k =>
        obtain ⟨t, x, hx⟩ := hn (k + 1) (by omega)
        have Hx := hid_mk hx
        rw [hx]
        clear hx hb1
        go_wp2
        go_ret2
        have hse : soaErr ms rs = k + 1 := by unfold soaErr; rw [← hk'.out, if_neg (by omega)]
        exact ⟨_, by rw [hse, Hx.out]; rfl, grown_two hbuf.grown hg1 (fun g hg => .inl hg.symm), fun _ => rfl, fun h => by rw [hse] at h; cases h⟩
    · have HXe := hid_mk hXe
      have hXl2 : xs0.length < X.length := by rw [hXe]; simp
      have HM := hid_mk hm0
      clear hXe hm0
      go_wp2_with fail
      refine (cn_nil B u1 X u1.ownBlock ra rc rs E1 E2 E3 wr hEr hB (by omega) hrr hrl (by omega) hbuf.own (.inl rfl) hn).mono ?_
      rintro e w1 ⟨v1, rfl, hg1, hb1⟩
      obtain ⟨k, hk'⟩ : ∃ k, Hid (k = nameErr 1 rs) := ⟨_, rfl⟩
      rw [← hk'.out] at hb1 ⊢
      have hloc : ∀ g, u1.ownBlock = some g → some g = row ∨ w.heap.size ≤ g := by
        rcases hbuf.loc with ⟨_, h⟩ | h
        · omega
        · exact h
      cases k with
      | zero =>
        have h0 : errV E1 E2 E3 0 = .nilIface := rfl
        rw [h0]
        have hB1 := hb1 rfl
        have hbw := Buf.trans hbuf hXl2 hB1
        have hwl := wire_len rs hk'.out.symm
        clear h0 hb1 cS cT
        go_wp2
        go_roundw
        case rel =>
          refine ⟨2, _, by omega, rfl, ?_, .inr (.inr ⟨rfl, HM.out, hk'.out.symm, by rw [HXe.out]⟩), hbw, ?_, ?_, ?_⟩
          · simp only [List.length_append, List.length_cons, List.length_nil]; omega
          · intro g hg
            rcases hB1.loc with ⟨_, h⟩ | h
            · simp at h
            · rcases h g hg with h' | h'
              · exact hvl g h'.symm
              · right; omega
          · intro b hb1' hb2'
            refine (hg1.block b (by omega) (fun e => ?_)).trans (HK.out b hb1' hb2')
            have := hvl b e.symm
            omega
          · have := hg1.size; omega
        case measure => simp [intOf]
      | succ k =>
        obtain ⟨t, x, hx⟩ := hn (k + 1) (by omega)
        have Hx := hid_mk hx
        rw [hx]
        clear hx hb1
        go_wp2
        go_ret2
        have hse : soaErr ms rs = k + 1 := by unfold soaErr; rw [if_pos HM.out, ← hk'.out]
        exact ⟨_, by rw [hse, Hx.out]; rfl, grown_two hbuf.grown hg1 hloc, fun _ => rfl, fun h => by rw [hse] at h; cases h⟩
    · have HXe := hid_mk hXe
      have HS : Hid (soaErr ms rs = 0) := by unfold soaErr; rw [if_pos hm0]; exact hid_mk hr0
      have hXl2 : xs0.length < X.length := by rw [hXe]; simp; omega
      clear hXe hm0 hr0
      obtain ⟨wn, hwn⟩ : ∃ x, x = wr := ⟨_, rfl⟩
      subst hwn
      go_wp2
      clear cS cT
      go_loopw [1, 46] (fun v i wq => ∃ k : Nat, k ≤ 5 ∧ i = .int .i64 k ∧ Buf B w row v0 xs0.length v (X ++ ((nums n1 n2 n3 n4 n5).take k).flatMap be32) wq ∧ (∀ g, v.ownBlock = some g → g ≠ wn.heap.size) ∧
          (∀ j, j < 5 → wq.cell? ⟨wn.heap.size, j, none⟩ = some (.int .u32 ((nums n1 n2 n3 n4 n5).getD j 0))) ∧ wn.heap.size < wq.heap.size)
        (fun _ i _ => 5 - (intOf i).toNat)
      case atStart =>
        refine ⟨0, by omega, rfl, ⟨?_, ?_, .inr ?_⟩, fun g hg e => ?_, fun j hj => ?_, by simp⟩
        · simpa using hbuf.own.alloc _
        · exact grown_two hbuf.grown (World.grownBy_alloc _ _ none) (fun g hg => by cases hg)
        · rcases hbuf.loc with ⟨_, h⟩ | h
          · omega
          · exact h
        · have := (hbuf.own.lt g hg).2; omega
        · match j, hj with
          | 0, _ => simp [nums]
          | 1, _ => simp [nums]
          | 2, _ => simp [nums]
          | 3, _ => simp [nums]
          | 4, _ => simp [nums]
      case round =>
        obtain ⟨k, hk5, rfl, hbk, hgk, hck, hsk⟩ := hrel
        have hss := hbk.grown.size
        by_cases hlt : k < 5
        · have hx := nums_bound n1 n2 n3 n4 n5 h1 h2 h3 h4 h5 k
          have ck := hck k hlt
          have HT := hid_mk (nums_take n1 n2 n3 n4 n5 k hlt)
          have hcl := nums_len n1 n2 n3 n4 n5 k hk5
          obtain ⟨x, hxe⟩ : ∃ x, Hid (x = (nums n1 n2 n3 n4 n5).getD k 0) := ⟨_, rfl⟩
          obtain ⟨Y, hY⟩ : ∃ Y, Hid (Y = X ++ ((nums n1 n2 n3 n4 n5).take k).flatMap be32) := ⟨_, rfl⟩
          have hYl : Y.length ≤ 1000000 := by rw [hY.out, List.length_append]; omega
          rw [← hxe.out] at hx ck
          rw [← hY.out] at hbk
          have HCK := hid_mk hck
          clear hck
          go_wp2_with fail
          refine (au32 B w row v0 xs0.length u1 Y x wr hbk hrow hx.1 hx.2 (by omega) (by omega)).mono ?_
          rintro e w1 ⟨v1, rfl, hb1, hg1, hl1⟩
          have hs1 := hg1.size
          have hb2 : Hid (Buf B w row v0 xs0.length v1 (X ++ ((nums n1 n2 n3 n4 n5).take (k + 1)).flatMap be32) w1) := by
            rw [hY.out, hxe.out, List.append_assoc] at hb1
            rw [HT.out]
            exact hid_mk hb1
          clear hb1 ck
          go_wp2
          go_roundw
          case rel =>
            have L1 : ∀ g, v1.ownBlock = some g → g ≠ wn.heap.size := fun g hg e => by
              rcases hl1 g hg with h | h
              · exact hgk g h e
              · omega
            have L2 : ∀ j, j < 5 → w1.cell? ⟨wn.heap.size, j, none⟩ = some (.int .u32 ((nums n1 n2 n3 n4 n5).getD j 0)) := fun j hj => by
              rw [hg1.cell_far ⟨wn.heap.size, j, none⟩ hsk (fun e => hgk _ e.symm rfl)]
              exact HCK.out j hj
            first
              | exact ⟨k + 1, by omega, by go_num, hb2.out, L1, L2, by omega⟩
              | ((repeat apply Exists.intro); exact ⟨⟨k + 1, by omega, by go_num, hb2.out, L1, L2, by omega⟩, rfl⟩)
          case measure => simp [intOf]; omega
        · obtain rfl : k = 5 := by omega
          have hb5 : Hid (Buf B w row v0 xs0.length u1 (X ++ tailB n1 n2 n3 n4 n5) wr) := by
            rw [← nums_tail]; exact hid_mk hbk
          clear hbk hck
          go_wp2
          go_ret2
          refine ⟨_, by rw [HS.out]; rfl, hb5.out.grown, fun h => absurd HS.out h, fun _ => ?_⟩
          have := hb5.out
          rw [HXe.out] at this
          exact this
end Go.Proofs.YbulkbzsgDoor

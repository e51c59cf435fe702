import Derived.Test.YbulkbzsgDoorEq
namespace Go.Proofs.YbulkbzsgDoor
open Go.RowKit
set_option linter.unusedVariables false
set_option linter.unusedSimpArgs false

theorem Ybad.info9 : (Ybad.prog.info? 9).map (fun i => (i.zero, i.size, i.bytes)) = some (some (.string { data := #[] }), 1, 16) := by kernel_rfl

theorem BytesIn.at {w : World} {a : Option Addr} {n c : Nat} {bs : List Int} (h : BytesIn w (.slice a n c) bs) {j : Nat} {x : Int} (hj : bs[j]? = some x) : ∃ b off, a = some ⟨b, off, none⟩ ∧ b < w.heap.size ∧ w.cell? ⟨b, off + j, none⟩ = some (.int .u8 x) := by
  obtain ⟨a', c', hv, hn, hs⟩ := h
  cases hv
  have hjl : j < bs.length := by
    rcases Nat.lt_or_ge j bs.length with hlt | hge
    · exact hlt
    · rw [List.getElem?_eq_none hge] at hj; cases hj
  cases a with
  | none => rw [hn rfl] at hj; cases hj
  | some y =>
    have h0 := hs y rfl 0 (.int .u8 (bs[0]'(by omega))) (by simp [show 0 < bs.length by omega])
    have hk := hs y rfl j (.int .u8 x) (by rw [List.getElem?_map, hj]; rfl)
    obtain ⟨b, off, spot⟩ := y
    have hspot : spot = none := by simpa [Addr.add] using World.cell?_spot h0
    subst hspot
    rw [Go.WideShapes.add_plain] at hk
    exact ⟨b, off, rfl, World.block_lt_of_cell? w _ hk, hk⟩

/-- A row of strings that is being filled. -/
structure Fill (S k n : Nat) (bs : List Int) (w0 w : World) : Prop where
  grown : w0.grownBy w (some S)
  own : ∃ xs, w.ownsRow S 9 1 (.slice (some ⟨S, 0, none⟩) n n) n xs ∧ ∀ j, j < k → xs[j]? = some (.string (lab (bs.getD j 0)))

theorem Fill.cell {S k n : Nat} {bs : List Int} {w0 w : World} (h : Fill S k n bs w0 w) (hk : k < n) : (∃ y, w.cell? ⟨S, k, none⟩ = some y) ∧ w.frozen? ⟨S, k, none⟩ = false := by
  obtain ⟨xs, ho, _⟩ := h.own
  refine ⟨?_, ho.frozenAt k⟩
  rw [ho.cellAt k (by omega)]
  have := ho.1
  exact ⟨xs[k]'(by omega), by simp [show k < xs.length by omega]⟩

theorem Fill.next {S k n : Nat} {bs : List Int} {w0 w : World} (h : Fill S k n bs w0 w) (hk : k < n) : Fill S (k + 1) n bs w0 (w.setCell ⟨S, k, none⟩ (.string (lab (bs.getD k 0)))) := by
  obtain ⟨xs, ho, hx⟩ := h.own
  obtain ⟨h1, h2⟩ := ho.stored k (.string (lab (bs.getD k 0)))
  have hl := ho.1
  refine ⟨h.grown.trans h2, _, h1, fun j hj => ?_⟩
  rw [List.getElem?_set]
  split
  · rename_i e
    subst e
    rw [if_pos (by omega)]
  · exact hx j (by omega)

theorem Fill.strs {S n B : Nat} {bs : List Int} {w0 w : World} (h : Fill S n n bs w0 w) (hn : bs.length = n) (hB : S < B) : StrsIn B w (some ⟨S, 0, none⟩) (bs.map lab) := by
  obtain ⟨xs, ho, hx⟩ := h.own
  intro j s hj
  have hjl : j < bs.length := by
    rcases Nat.lt_or_ge j bs.length with hlt | hge
    · exact hlt
    · rw [List.getElem?_eq_none (by simpa using hge)] at hj; cases hj
  refine ⟨S, 0, rfl, hB, ?_⟩
  rw [Nat.zero_add, ho.cellAt j (by omega), hx j (by omega)]
  rw [List.getElem?_map, List.getElem?_eq_getElem hjl] at hj
  simp at hj
  simp [List.getD, List.getElem?_eq_getElem hjl, hj]

def MatchAt (ms rs : List ByteArray) (j : Nat) : Prop := rs.length - j ≤ ms.length ∧ rs.drop j = ms.drop (ms.length - (rs.length - j))
def offAt (L : Nat) (ms rs : List ByteArray) (j : Nat) : Nat := L + (wireB (ms.take (ms.length - (rs.length - j)))).length

theorem out_none {L : Nat} {ms rs : List ByteArray} (hm : okName ms) (hr : okName rs) (h : ∀ j, j < rs.length → ¬ MatchAt ms rs j) : outR L ms rs = wireB rs ++ [0] ∧ cntR L ms rs = rs.length := by
  have hc := comp_fresh rs (tab0 ms L) (L + (wireB ms).length + 1) (fun i hi => (tab_match hm hr L i hi).trans (if_neg (h i hi)))
  unfold outR cntR
  rw [hc]
  exact ⟨rfl, rfl⟩

theorem out_found {L : Nat} {ms rs : List ByteArray} (hm : okName ms) (hr : okName rs) {j : Nat} (hj : j < rs.length) (hmj : MatchAt ms rs j) (h : ∀ j', j' < j → ¬ MatchAt ms rs j') :
    outR L ms rs = wireB (rs.take j) ++ ptrB (offAt L ms rs j) ∧ cntR L ms rs = j :=
  comp_found rs (tab0 ms L) (L + (wireB ms).length + 1) j _ hj (fun i hi => (tab_match hm hr L i (by omega)).trans (if_neg (h i hi))) ((tab_match hm hr L j hj).trans (if_pos hmj))

theorem StrsIn.sub {B : Nat} {w : World} {g : Nat} {ss : List ByteArray} (h : StrsIn B w (some ⟨g, 0, none⟩) ss) (p : Nat) : StrsIn B w (some ⟨g, p, none⟩) (ss.drop p) := fun j s hj => by
  rw [List.getElem?_drop] at hj
  obtain ⟨b, off, h1, h2, h3⟩ := h _ _ hj
  cases h1
  exact ⟨g, p, rfl, h2, by rw [Nat.zero_add] at h3; exact h3⟩

theorem StrsIn.up {B B' : Nat} {w : World} {a : Option Addr} {ss : List ByteArray} (h : StrsIn B w a ss) (hb : B ≤ B') : StrsIn B' w a ss := fun j s hj => by
  obtain ⟨b, off, h1, h2, h3⟩ := h j s hj
  exact ⟨b, off, h1, by omega, h3⟩

theorem G2.grown {w w' : World} {bm : Nat} (h : G2 w w' none bm) : w.grownBy w' (some bm) :=
  ⟨h.os, h.tape, h.output, h.size, fun i hi hne => h.block i hi (by simp) (fun e => hne (by rw [e]))⟩

theorem MapIs.len {w : World} {bm n : Nat} {f : Tab} (h : MapIs w bm f n) (ty : TypeId) : (Builtin.len_ #[38] ty #[.map (some bm)]).run Ybad.prog w = .ok (.int .i64 n) w := by
  obtain ⟨D, h1, h2, _⟩ := h
  rw [h1.len Ybad.underlying38 ty, h2]

set_option maxHeartbeats 1000000 in
set_option maxRecDepth 100000 in
theorem compress_walk (pa ma ra : Option Addr) (pc mc rc : Nat) (bs mb rb : List Int) (n1 n2 n3 n4 n5 : Int) (E1 E2 E3 : Value) (w : World) (hE : Errs E1 E2 E3 w) (hB : 4 ≤ w.heap.size)
    (hbs : BytesIn w (.slice pa bs.length pc) bs) (hmb : BytesIn w (.slice ma mb.length mc) mb) (hrb : BytesIn w (.slice ra rb.length rc) rb) (hmr : ∀ x ∈ mb, 0 ≤ x ∧ x ≤ 255) (hrr : ∀ x ∈ rb, 0 ≤ x ∧ x ≤ 255)
    (h1 : 0 ≤ n1 ∧ n1 ≤ 4294967295) (h2 : 0 ≤ n2 ∧ n2 ≤ 4294967295) (h3 : 0 ≤ n3 ∧ n3 ≤ 4294967295) (h4 : 0 ≤ n4 ∧ n4 ≤ 4294967295) (h5 : 0 ≤ n5 ∧ n5 ≤ 4294967295)
    (hn : ∀ k, 0 < k → ∃ a, errV E1 E2 E3 k = .iface 51 (.pointer (some a))) :
    Calls Ybad.prog 4 #[.slice pa bs.length pc, .slice ma mb.length mc, .slice ra rb.length rc, .int .u32 n1, .int .u32 n2, .int .u32 n3, .int .u32 n4, .int .u32 n5] w fun e w' => e = .returned (.bool true) ∧ Below w.heap.size w w' := by
  obtain ⟨i0, hi, hz0, hz1, hz2⟩ := info_parts Ybad.info5
  obtain ⟨i9, gi, gz0, gz1, gz2⟩ := info_parts Ybad.info9
  by_cases hpl : bs.length ≤ 1024
  · by_cases hml : mb.length ≤ 1024
    · by_cases hrl : rb.length ≤ 1024
      · have q1 : ¬ (1024 : Int) < bs.length := by omega
        have q2 : ¬ (1024 : Int) < mb.length := by omega
        have q3 : ¬ (1024 : Int) < rb.length := by omega
        go_enter Ybad.func4, Ybad.ntmps4
        go_wp2_with (at_make; refine wpList_make_full _ rfl _ _ 23 rfl w.heap.size 9 i9 (.string { data := #[] }) 1 Ybad.underlying23 gi gz0 gz1 _ _ _ _ mb.length rfl rfl (by omega) (by omega) ?b2 ?b3 (Nat.le_refl _) ?_)
        case b2 => first | omega | (rw [gz2]; omega) | (rw [hz2]; omega)
        case b3 => unfold maxLen; omega
        intro w1 ho1 hg1
        have F0 : Fill w.heap.size 0 mb.length mb w1 w1 := ⟨World.grownBy.refl _ _, _, ho1, fun j hj => by omega⟩
        have hs1 : w.heap.size < w1.heap.size := (ho1.lt _ rfl).2
        clear ho1
        go_wp2
        go_loopw [18] (fun i wr => ∃ k : Nat, k ≤ mb.length ∧ i = .int .i64 k ∧ Fill w.heap.size k mb.length mb w1 wr) (fun i _ => mb.length - (intOf i).toNat)
        case atStart => exact ⟨0, Nat.zero_le _, rfl, F0⟩
        case round =>
          obtain ⟨k, hk, rfl, hF⟩ := hrel
          by_cases hlt : k < mb.length
          · obtain ⟨x, hx⟩ : ∃ x, mb[k]? = some x := ⟨mb[k], by simp [hlt]⟩
            obtain ⟨b, off, rfl, hb, hc⟩ := hmb.at hx
            have hxr := hmr x (List.mem_of_getElem? hx)
            have c0 : wr.cell? ⟨b, off + k, none⟩ = some (.int .u8 x) := (World.cell?_of_block (w := w) (a := ⟨b, off + k, none⟩) ((hF.grown.block b (by omega) (by simp; omega)).trans (hg1.block b hb (by simp)))).trans hc
            obtain ⟨⟨y, c1⟩, f1⟩ := hF.cell hlt
            have hF2 := hF.next hlt
            have e : mb.getD k 0 = x := by simp [List.getD, hx]
            rw [e] at hF2
            have HF2 := hid_mk hF2
            clear hx hc e hF2
            go_wp2_with fail
            refine (lab_walk x wr hxr.1 hxr.2).mono ?_
            rintro e w2 ⟨rfl, rfl⟩
            obtain ⟨s, hs⟩ : ∃ s, Hid (s = lab x) := ⟨_, hid_mk rfl⟩
            rw [← hs.out] at HF2 ⊢
            go_wp2
            go_roundw
            case rel => exact ⟨k + 1, by omega, by go_num, HF2.out⟩
            case measure => simp [intOf]; omega
          · obtain rfl : k = mb.length := by omega
            obtain ⟨wA, hwA⟩ : ∃ x, x = wr := ⟨_, rfl⟩
            subst hwA
            have hsA : w1.heap.size ≤ wA.heap.size := hF.grown.size
            have hA : ∀ b, b < w.heap.size → wA.heap[b]? = w.heap[b]? := fun b hb => (hF.grown.block b (by omega) (by simp; omega)).trans (hg1.block b hb (by simp))
            obtain ⟨ms, hms⟩ : ∃ x, Hid (x = mb.map lab) := ⟨_, hid_mk rfl⟩
            have HML : Hid (ms.length = mb.length) := hid_mk (by rw [hms.out]; simp)
            have sms : StrsIn wA.heap.size wA (some ⟨w.heap.size, 0, none⟩) ms := by rw [hms.out]; exact hF.strs rfl (by omega)
            have belA : Below w.heap.size w wA := ((Below.refl _ _).grown hg1 (Nat.le_refl _) (fun k hk => by cases hk)).grown hF.grown (by omega) (fun k hk => by cases hk; exact Nat.le_refl _)
            clear F0 hF hk hlt hg1
            go_wp2_with (at_make; refine wpList_make_full _ rfl _ _ 23 rfl wA.heap.size 9 i9 (.string { data := #[] }) 1 Ybad.underlying23 gi gz0 gz1 _ _ _ _ rb.length rfl rfl (by omega) (by omega) ?b2 ?b3 (Nat.le_refl _) ?_)
            case b2 => first | omega | (rw [gz2]; omega) | (rw [hz2]; omega)
            case b3 => unfold maxLen; omega
            intro w2 ho2 hg2
            have F0 : Fill wA.heap.size 0 rb.length rb w2 w2 := ⟨World.grownBy.refl _ _, _, ho2, fun j hj => by omega⟩
            have hs2 : wA.heap.size < w2.heap.size := (ho2.lt _ rfl).2
            clear ho2
            go_wp2
            go_loopw [20] (fun i wr => ∃ k : Nat, k ≤ rb.length ∧ i = .int .i64 k ∧ Fill wA.heap.size k rb.length rb w2 wr) (fun i _ => rb.length - (intOf i).toNat)
            case atStart => exact ⟨0, Nat.zero_le _, rfl, F0⟩
            case round =>
              obtain ⟨k, hk, rfl, hF⟩ := hrel
              by_cases hlt : k < rb.length
              · obtain ⟨x, hx⟩ : ∃ x, rb[k]? = some x := ⟨rb[k], by simp [hlt]⟩
                obtain ⟨b, off, rfl, hb, hc⟩ := hrb.at hx
                have hxr := hrr x (List.mem_of_getElem? hx)
                have c0 : wr.cell? ⟨b, off + k, none⟩ = some (.int .u8 x) := (World.cell?_of_block (w := w) (a := ⟨b, off + k, none⟩) ((hF.grown.block b (by omega) (by simp; omega)).trans ((hg2.block b (by omega) (by simp)).trans (hA b hb)))).trans hc
                obtain ⟨⟨y, c1⟩, f1⟩ := hF.cell hlt
                have hF2 := hF.next hlt
                have e : rb.getD k 0 = x := by simp [List.getD, hx]
                rw [e] at hF2
                have HF2 := hid_mk hF2
                clear hx hc e hF2
                go_wp2_with fail
                refine (lab_walk x wr hxr.1 hxr.2).mono ?_
                rintro e w3 ⟨rfl, rfl⟩
                obtain ⟨s, hs⟩ : ∃ s, Hid (s = lab x) := ⟨_, hid_mk rfl⟩
                rw [← hs.out] at HF2 ⊢
                go_wp2
                go_roundw
                case rel => exact ⟨k + 1, by omega, by go_num, HF2.out⟩
                case measure => simp [intOf]; omega
              · obtain rfl : k = rb.length := by omega
                obtain ⟨wB, hwB⟩ : ∃ x, x = wr := ⟨_, rfl⟩
                subst hwB
                have hsB : w2.heap.size ≤ wB.heap.size := hF.grown.size
                have hAB : ∀ b, b < wA.heap.size → wB.heap[b]? = wA.heap[b]? := fun b hb => (hF.grown.block b (by omega) (by simp; omega)).trans (hg2.block b hb (by simp))
                obtain ⟨rs, hrs⟩ : ∃ x, Hid (x = rb.map lab) := ⟨_, hid_mk rfl⟩
                have HRL : Hid (rs.length = rb.length) := hid_mk (by rw [hrs.out]; simp)
                have srs : StrsIn wB.heap.size wB (some ⟨wA.heap.size, 0, none⟩) rs := by rw [hrs.out]; exact hF.strs rfl (by omega)
                have sms2 : StrsIn wB.heap.size wB (some ⟨w.heap.size, 0, none⟩) ms := (sms.mono hAB).up (by omega)
                have belB : Below w.heap.size w wB := (belA.grown hg2 (by omega) (fun k hk => by cases hk)).grown hF.grown (by omega) (fun k hk => by cases hk; omega)
                have hwB0 : ∀ b, b < w.heap.size → wB.heap[b]? = w.heap[b]? := fun b hb => (hAB b (by omega)).trans (hA b hb)
                have hszB : w.heap.size + 2 ≤ wB.heap.size := by omega
                have hEB := hE.mono hB hwB0
                have hbsB := hbs.mono hwB0
                have hBB : 4 ≤ wB.heap.size := by omega
                clear F0 hF hk hlt hg2 sms hA hAB hwB0 hmb hrb hE hbs
                have hmm := @run_makeMap Ybad.prog
                go_wp2_with (at_make; refine wpList_make_full _ rfl _ _ 22 rfl wB.heap.size 5 i0 (.int .u8 0) 1 Ybad.underlying22 hi hz0 hz1 _ _ _ _ bs.length rfl rfl (by omega) (by omega) ?b2 ?b3 (Nat.le_refl _) ?_)
                case b2 => first | omega | (rw [gz2]; omega) | (rw [hz2]; omega)
                case b3 => unfold maxLen; omega
                intro w3 ho3 hg3
                have hw3b : ∀ b, b < wB.heap.size → w3.heap[b]? = wB.heap[b]? := fun b hb => hg3.block b hb (by simp)
                have hbs3 := hbsB.mono hw3b
                obtain ⟨w4, hcp, ho4, hg4⟩ := copy_run w3 wB.heap.size wB.heap.size bs _ _ 3 ho3 hbs3
                have hw4b : ∀ b, b < wB.heap.size → w4.heap[b]? = wB.heap[b]? := fun b hb => (hg4.block b (by have := hg3.size; omega) (by simp; omega)).trans (hw3b b hb)
                have hs4 : wB.heap.size < w4.heap.size := (ho4.lt _ rfl).2
                have hbs4 := hbsB.mono hw4b
                have hE4 := hEB.mono hBB hw4b
                have sms4 := sms2.mono hw4b
                have srs4 := srs.mono hw4b
                have bel4 : Below w.heap.size w w4 := (belB.grown hg3 (by omega) (fun k hk => by cases hk)).grown hg4 (by have := hg3.size; omega) (fun k hk => by cases hk; omega)
                have hnt : ∀ k, 0 < k → ∃ t x, errV E1 E2 E3 k = .iface t x := fun k hk => by obtain ⟨a, h⟩ := hn k hk; exact ⟨_, _, h⟩
                obtain ⟨B, hBe⟩ : ∃ B, B = wB.heap.size := ⟨_, rfl⟩
                rw [← hBe] at hs4 hBB ho4 hw4b sms4 srs4
                have hwB : w.heap.size + 2 ≤ B := by omega
                have HBE := hid_mk hBe
                clear hbs3 ho3 hg3 hg4 hw3b belB belA hEB hbsB sms2 srs hBe
                have hml' : ms.length ≤ 1024 := by have := HML.out; omega
                have hrl' : rs.length ≤ 1024 := by have := HRL.out; omega
                have hal : ∀ o1 o2 : Obj, ∀ b, b < w4.heap.size → ((w4.alloc o1).alloc o2).heap[b]? = w4.heap[b]? := fun o1 o2 b hb => (Below.heap_alloc _ _ _ (by simp; omega)).trans (Below.heap_alloc _ _ _ hb)
                have hK := fun o => soa_map B (.slice (some ⟨B, 0, none⟩) bs.length bs.length) bs none (some ⟨w.heap.size, 0, none⟩) (some ⟨wA.heap.size, 0, none⟩) mb.length rb.length ms rs n1 n2 n3 n4 n5 E1 E2 E3 w4.heap.size ((w4.alloc (.map #[] 0)).alloc o)
                  (hE4.mono hBB (fun b hb => hal _ _ b (by omega))) hBB (by simp; omega) (sms4.mono (fun b hb => hal _ _ b (by omega))) (srs4.mono (fun b hb => hal _ _ b (by omega))) hml' hrl' hpl ((ho4.alloc _).alloc _) (.inr ⟨rfl, Nat.le_refl _⟩) h1 h2 h3 h4 h5 hnt ((MapIs.made w4).kept (Below.heap_alloc _ _ _ (by simp))) (by simp) (by omega) (by simp; omega)
                rw [HML.out, HRL.out] at hK
                have HK := hid_mk hK
                clear hK
                go_wp2_with fail
                rw [← HBE.out]
                refine (HK.out _).mono ?_
                rintro e w7 ⟨v7, rfl, hg7, hv7, hm7a, hm7b, hok7⟩
                have hs7 : w4.heap.size < w7.heap.size := by have := hg7.size; simp at this; omega
                have h47 : ∀ b, b < w4.heap.size → w7.heap[b]? = w4.heap[b]? := fun b hb => (hg7.block b (by simp; omega) (by simp) (by omega)).trans (hal _ _ b hb)
                have hE7 := hE4.mono hBB (fun b hb => h47 b (by omega))
                have sms7 := sms4.mono (fun b hb => h47 b (by omega))
                have srs7 := srs4.mono (fun b hb => h47 b (by omega))
                have hb7 := own_same ho4 (fun g hg => h47 g (ho4.lt g hg).2)
                have hbs7 := hbs4.mono h47
                have bel7 : Below w.heap.size w w7 := ((bel4.alloc (by omega) _).alloc (by simp; omega) _).grown hg7.grown (by simp; omega) (fun k hk => by cases hk; omega)
                clear hE4 sms4 srs4 ho4 hbs4 bel4 HK hal hcp hg7 h47 hw4b
                have hK2 := wire_walk B (some ⟨w.heap.size, 0, none⟩) mb.length ms E1 E2 E3 w7 hE7 hBB (by omega) sms7 hml'
                rw [HML.out] at hK2
                have HK2 := hid_mk hK2
                clear hK2
                go_wp2_with fail
                refine HK2.out.mono ?_
                rintro e w8 ⟨v8, rfl, hg8, hv8⟩
                have bel8 : Below w.heap.size w w8 := bel7.grown hg8 (by omega) (fun k hk => by cases hk)
                have hs8 := hg8.size
                have h78 : ∀ b, b < w7.heap.size → w8.heap[b]? = w7.heap[b]? := fun b hb => hg8.block b hb (by simp)
                clear HK2
                obtain ⟨km, hkm⟩ : ∃ k, Hid (k = nameErr 1 ms) := ⟨_, hid_mk rfl⟩
                rw [← hkm.out] at hv8 hm7a hm7b ⊢
                cases km with
                | succ k =>
                  have hse : soaErr ms rs = k + 1 := by unfold soaErr; rw [← hkm.out, if_neg (by omega)]
                  obtain ⟨a, ha⟩ := hn (k + 1) (by omega)
                  obtain rfl := hv7 (by rw [hse]; omega)
                  obtain ⟨f8, hM8⟩ := hm7a (by omega)
                  have hlen := (hM8.kept (h78 _ hs7)).len
                  rw [hse, ha]
                  have he := fun w => eql_same w a
                  have hsn := fun w => Lib.run_eql_slice_nil (P := Ybad.prog) w 22 5 none 0 0 0 0 Ybad.underlying22
                  clear ha hse hv8 hv7 hok7 hn hnt hm7a hm7b
                  go_wp2
                  go_ret
                  exact ⟨rfl, bel8⟩
                | zero =>
                  have hv8' := hv8 rfl
                  have hse : soaErr ms rs = nameErr 1 rs := by unfold soaErr; rw [← hkm.out, if_pos rfl]
                  have h0 : errV E1 E2 E3 0 = .nilIface := rfl
                  rw [hse, h0]
                  rw [hse] at hv7 hok7
                  have hE8 := hE7.mono hBB (fun b hb => h78 b (by omega))
                  have srs8 := srs7.mono (fun b hb => h78 b (by omega))
                  have hK3 := wire_walk B (some ⟨wA.heap.size, 0, none⟩) rb.length rs E1 E2 E3 w8 hE8 hBB (by omega) srs8 hrl'
                  rw [HRL.out] at hK3
                  have HK3 := hid_mk hK3
                  clear hse h0 hv8 hK3
                  go_wp2_with fail
                  refine HK3.out.mono ?_
                  rintro e w9 ⟨v9, rfl, hg9, hv9⟩
                  have bel9 : Below w.heap.size w w9 := bel8.grown hg9 (by omega) (fun k hk => by cases hk)
                  have hs9 := hg9.size
                  have h89 : ∀ b, b < w8.heap.size → w9.heap[b]? = w8.heap[b]? := fun b hb => hg9.block b hb (by simp)
                  clear HK3
                  obtain ⟨kr, hkr⟩ : ∃ k, Hid (k = nameErr 1 rs) := ⟨_, hid_mk rfl⟩
                  rw [← hkr.out] at hv9 hv7 hok7 hm7b ⊢
                  cases kr with
                  | succ k =>
                    obtain ⟨a, ha⟩ := hn (k + 1) (by omega)
                    obtain rfl := hv7 (by omega)
                    obtain ⟨f9, hM9⟩ := hm7b trivial (by omega)
                    have hlen := ((hM9.kept (h78 _ hs7)).kept (h89 _ (by omega))).len
                    rw [ha]
                    have he := fun w => eql_same w a
                    have hsn := fun w => Lib.run_eql_slice_nil (P := Ybad.prog) w 22 5 none 0 0 0 0 Ybad.underlying22
                    clear ha hv9 hv7 hok7 hn hnt hm7a hm7b
                    go_wp2
                    go_ret
                    exact ⟨rfl, bel9⟩
                  | zero =>
                    have hv9' := hv9 rfl
                    obtain ⟨hb3, f7, hM7⟩ := hok7 rfl
                    have h0 : errV E1 E2 E3 0 = .nilIface := rfl
                    rw [h0]
                    have hwm := wire_len ms hkm.out.symm
                    have hwr := wire_len rs hkr.out.symm
                    have HOM := hid_mk (ok_of_err ms 1 hkm.out.symm)
                    have HOR := hid_mk (ok_of_err rs 1 hkr.out.symm)
                    have hm9 := own_same hv8' (fun g hg => h89 g (hv8'.lt g hg).2)
                    have hgot := own_same hb3 (fun g hg => (h89 g (by have := (hb3.lt g hg).2; omega)).trans (h78 g (hb3.lt g hg).2))
                    have hbs9 := (hbs7.mono h78).mono h89
                    have hb9 := own_same hb7 (fun g hg => (h89 g (by have := (hb7.lt g hg).2; omega)).trans (h78 g (hb7.lt g hg).2))
                    have hM9 := (hM7.kept (h78 _ hs7)).kept (h89 _ (by omega))
                    have sms9 := (sms7.mono (fun b hb => h78 b (by omega))).mono (fun b hb => h89 b (by omega))
                    have srs9 := srs8.mono (fun b hb => h89 b (by omega))
                    clear h0 hv9 hv7 hok7 hm7a hm7b hv8' hb3 hbs7 hb7 hM7 sms7 srs7 srs8 hE7 hE8 bel7 bel8 hmm hn hnt
                    obtain ⟨MB, hMB⟩ : ∃ X, Hid (X = wireB ms ++ [0]) := ⟨_, hid_mk rfl⟩
                    obtain ⟨RB, hRB⟩ : ∃ X, Hid (X = wireB rs ++ [0]) := ⟨_, hid_mk rfl⟩
                    have hMBl : MB.length ≤ 255 := by rw [hMB.out]; simp; omega
                    have hRBl : RB.length ≤ 255 := by rw [hRB.out]; simp; omega
                    rw [← hMB.out] at hm9 hgot
                    rw [← hRB.out] at hv9'
                    obtain ⟨v8a, v8c, rfl⟩ := ownsRow_shape hm9
                    obtain ⟨v9a, v9c, rfl⟩ := ownsRow_shape hv9'
                    go_wp2
                    go_loopw [30, 31, 32] (fun fd off i wr => ∃ k N : Nat, k ≤ rb.length ∧ i = .int .i64 k ∧ wr = w9.drewN N ∧ ((fd = .int .i64 (-1) ∧ off = .int .i64 0 ∧ ∀ j, j < k → ¬ MatchAt ms rs j) ∨
                        (∃ j, j + 1 = k ∧ fd = .int .i64 j ∧ off = .int .i64 (offAt bs.length ms rs j) ∧ MatchAt ms rs j ∧ ∀ j', j' < j → ¬ MatchAt ms rs j')))
                      (fun _ _ i _ => rb.length - (intOf i).toNat)
                    case atStart => exact ⟨0, 0, Nat.zero_le _, rfl, rfl, .inl ⟨rfl, rfl, fun j hj => by omega⟩⟩
                    case round =>
                      obtain ⟨k, N, hk, rfl, rfl, hst⟩ := hrel
                      rcases hst with ⟨rfl, rfl, hno⟩ | ⟨j, hj, rfl, rfl, hmj, hno⟩
                      · by_cases hlt : k < rb.length
                        · have HNO := hid_mk hno
                          clear hno
                          by_cases hle : rb.length - k ≤ mb.length
                          · have hd : ((rb.length : Int) - (k : Int) ≤ (mb.length : Int)) := by omega
                            obtain ⟨P, hP⟩ : ∃ P, Hid (P = mb.length - (rb.length - k)) := ⟨_, hid_mk rfl⟩
                            have hPe : (mb.length : Int) - ((rb.length : Int) - (k : Int)) = (P : Int) := by have := hP.out; omega
                            have hPl : P < mb.length := by have := hP.out; omega
                            have hK := fun M => eq_walk B (some ⟨wA.heap.size, k, none⟩) (some ⟨w.heap.size, P, none⟩) (rb.length - k) (mb.length - P) (rs.drop k) (ms.drop P) (w9.drewN M) (srs9.sub k) (sms9.sub P) (by rw [List.length_drop, List.length_drop, HML.out, HRL.out]; have := hP.out; omega) (by rw [List.length_drop]; omega)
                            rw [List.length_drop, List.length_drop, HML.out, HRL.out] at hK
                            obtain ⟨q, hq⟩ : ∃ q, Hid (q = decide (rs.drop k = ms.drop P)) := ⟨_, hid_mk rfl⟩
                            rw [← hq.out] at hK
                            have HQ := hid_mk hK
                            have HM1 : Hid (q = true → MatchAt ms rs k) := hid_mk (fun hqt => by
                              rw [hq.out] at hqt
                              refine ⟨by rw [HML.out, HRL.out]; exact hle, ?_⟩
                              rw [HML.out, HRL.out, ← hP.out]
                              exact of_decide_eq_true hqt)
                            have HM0 : Hid (q = false → ¬ MatchAt ms rs k) := hid_mk (fun hqt hm => by
                              rw [hq.out] at hqt
                              have h2 := hm.2
                              rw [HML.out, HRL.out, ← hP.out] at h2
                              exact of_decide_eq_false hqt h2)
                            clear hK hq
                            go_wp2
                            have HPE := hid_mk hPe
                            clear hPe
                            have hb1 : (0 : Int) ≤ (mb.length : Int) - ((rb.length : Int) - (k : Int)) := by omega
                            have hb2 : (mb.length : Int) - ((rb.length : Int) - (k : Int)) ≤ (mb.length : Int) := by omega
                            go_quiet (first | (go_at_call 10; rw [← hP.out]; refine (HQ.out _).mono ?_; rintro e w2 ⟨n, rfl, rfl⟩; exact ⟨rfl, _, (World.drewN_drewN _ _ _).trans (World.drewN_congr _ (Nat.add_assoc _ _ _))⟩))
                            clear HQ
                            cases q with
                            | false =>
                              go_wp2
                              go_roundw
                              case rel =>
                                have L1 : ∀ j, j < k + 1 → ¬ MatchAt ms rs j := fun j hj => by
                                  rcases Nat.lt_or_ge j k with h | h
                                  · exact HNO.out j h
                                  · obtain rfl : j = k := by omega
                                    exact HM0.out rfl
                                exact ⟨k + 1, _, by omega, by go_num, rfl, .inl ⟨rfl, rfl, L1⟩⟩
                              case measure => simp [intOf]; omega
                            | true =>
                              have HMK := hid_mk (HM1.out rfl)
                              clear HM0 HM1
                              go_wp2
                              go_loopw [31, 34] (fun off i wr => ∃ t : Nat, t ≤ P ∧ i = .int .i64 t ∧ off = .int .i64 ((bs.length + (wireB (ms.take t)).length : Nat) : Int) ∧ wr = w9.drewN (N + nq)) (fun _ i _ => P - (intOf i).toNat)
                              case atStart => exact ⟨0, Nat.zero_le _, rfl, rfl, rfl⟩
                              case round =>
                                obtain ⟨t, ht, rfl, rfl, rfl⟩ := hrel
                                by_cases hlt2 : t < P
                                · obtain ⟨s, hs⟩ : ∃ s, ms[t]? = some s := ⟨ms[t]'(by have := HML.out; omega), by simp [show t < ms.length by have := HML.out; omega]⟩
                                  obtain ⟨b', off', he', _, hc⟩ := sms9 t s hs
                                  cases he'
                                  rw [Nat.zero_add] at hc
                                  have HW := hid_mk (wireB_succ ms t s hs)
                                  have hwl : (wireB (ms.take t)).length ≤ 254 := by
                                    have h := congrArg List.length (show wireB ms = wireB (ms.take t) ++ wireB (ms.drop t) by rw [← wireB_append, List.take_append_drop])
                                    rw [List.length_append] at h
                                    omega
                                  have hso := HOM.out s (List.mem_of_getElem? hs)
                                  have hc1 : (t : Int) < (mb.length : Int) - ((rb.length : Int) - (k : Int)) := by have := HPE.out; omega
                                  clear hs
                                  obtain ⟨O, hO⟩ : ∃ O, Hid (O = bs.length + (wireB (ms.take t)).length) := ⟨_, hid_mk rfl⟩
                                  have hOl : O ≤ 2000 := by have := hO.out; omega
                                  rw [← hO.out]
                                  go_wp2
                                  go_roundw
                                  case rel =>
                                    refine ⟨t + 1, by omega, by go_num, ?_, by first | rfl | trivial⟩
                                    rw [HW.out, List.length_append, List.length_cons, bytesI_len]
                                    refine congrArg (Value.int .i64) ?_
                                    have := hO.out
                                    omega
                                  case measure => simp [intOf]; omega
                                · have hc1 : ¬ (t : Int) < (mb.length : Int) - ((rb.length : Int) - (k : Int)) := by have := HPE.out; omega
                                  obtain rfl : t = P := by omega
                                  have HOF : Hid (bs.length + (wireB (ms.take t)).length = offAt bs.length ms rs k) := hid_mk (by unfold offAt; rw [HML.out, HRL.out, ← hP.out])
                                  rw [HOF.out]
                                  clear hb1 hb2 hd
                                  go_wp2
                                  go_roundw
                                  case rel => exact ⟨k + 1, _, by omega, by go_num, rfl, .inr ⟨k, rfl, rfl, rfl, HMK.out, HNO.out⟩⟩
                                  case measure => simp [intOf]; omega
                          · have hd : decide ((rb.length : Int) - (k : Int) ≤ (mb.length : Int)) = false := decide_eq_false (by omega)
                            have hd' : ¬ ((rb.length : Int) - (k : Int) ≤ (mb.length : Int)) := by omega
                            go_wp2
                            go_quiet (fail)
                            go_wp2
                            go_roundw
                            case rel =>
                              have L1 : ∀ j, j < k + 1 → ¬ MatchAt ms rs j := fun j hj => by
                                rcases Nat.lt_or_ge j k with h | h
                                · exact HNO.out j h
                                · obtain rfl : j = k := by omega
                                  intro hm
                                  have := hm.1
                                  rw [HML.out, HRL.out] at this
                                  exact hle this
                              exact ⟨k + 1, _, by omega, by go_num, rfl, .inl ⟨rfl, rfl, L1⟩⟩
                            case measure => simp [intOf]; omega
                        · obtain rfl : k = rb.length := by omega
                          have HOUT := hid_mk (out_none (L := bs.length) HOM.out HOR.out (fun j hj => hno j (by have := HRL.out; omega)))
                          clear hno hlt hk
                          go_wp2_with (at_make; refine wpList_make_own _ rfl _ _ 22 rfl w9.heap.size 5 i0 (.int .u8 0) 1 Ybad.underlying22 hi hz0 hz1 _ _ _ (bs.length + MB.length + RB.length + 22) rfl rfl (by omega) ?m2 ?m3 (Nat.le_refl _) ?_)
                          case m2 => first | omega | (rw [hz2]; omega)
                          case m3 => unfold maxLen; omega
                          intro w10 ho10 hg10
                          obtain ⟨K, hK⟩ : ∃ K, Hid (K = w9.heap.size) := ⟨_, hid_mk rfl⟩
                          have hK10 : ∀ b, b < K → w10.heap[b]? = w9.heap[b]? := fun b hb => hg10.block b (by show b < w9.heap.size; have := hK.out; omega) (by simp)
                          have hs10 : K ≤ w10.heap.size := by have := hK.out; have h : w9.heap.size ≤ w10.heap.size := hg10.size; omega
                          rw [← hK.out] at ho10
                          have hwK : w.heap.size ≤ K := by have := hK.out; have h := (hb9.lt _ rfl).2; omega
                          have bel10 : Below w.heap.size w w10 := bel9.grown (show w9.grownBy w10 none from ⟨hg10.os, hg10.tape, hg10.output, hg10.size, hg10.block⟩) (by have := hK.out; omega) (fun k hk => by cases hk)
                          have hlt9 : ∀ b, b < w9.heap.size → b < K := fun b hb => by have := hK.out; omega
                          have hbs10 := hbs9.mono (fun b hb => hK10 b (hlt9 b hb))
                          have hm10 := own_same hm9 (fun g hg => hK10 g (hlt9 g (hm9.lt g hg).2))
                          have hr10 := own_same hv9' (fun g hg => hK10 g (hlt9 g (hv9'.lt g hg).2))
                          have hgot10 := own_same hgot (fun g hg => hK10 g (hlt9 g (hgot.lt g hg).2))
                          have hb10 := own_same hb9 (fun g hg => hK10 g (hlt9 g (hb9.lt g hg).2))
                          have hBK : B < K := hlt9 B (hb9.lt B rfl).2
                          have hbmK : w4.heap.size < K := hlt9 _ (by omega)
                          have hM10 := hM9.kept (hK10 _ hbmK)
                          have srs10 := srs9.mono (fun b hb => hK10 b (by omega))
                          have hmK : ∀ g, (Value.slice v8a MB.length v8c).ownBlock = some g → g < K := fun g hg => hlt9 g (hm9.lt g hg).2
                          have hrK : ∀ g, (Value.slice v9a RB.length v9c).ownBlock = some g → g < K := fun g hg => hlt9 g (hv9'.lt g hg).2
                          have hgK : ∀ g, v7.ownBlock = some g → g < K := fun g hg => hlt9 g (hgot.lt g hg).2
                          obtain ⟨xp, hxp⟩ : ∃ x, Hid (x = bs.map (Value.int .u8)) := ⟨_, hid_mk rfl⟩
                          have hbsrc := hbs10.src
                          rw [← hxp.out] at hbsrc
                          have HK0 : Hid (w9.heap.size = K) := hid_mk hK.out.symm
                          have HK10 := hid_mk hK10
                          clear hg10 hK10 hlt9 hm9 hv9' hgot hb9 hM9 srs9 sms9 bel9
                          go_wp2_with (at_builtin; refine wpList_append_src _ rfl _ _ 22 22 rfl K 5 i0 (.int .u8 0) 1 1 Ybad.underlying22 hi hz0 hz1 hz2 rfl _ 0 [] rfl _ bs.length xp rfl (by first | exact ho10 | (rw [HK0.out]; exact ho10)) hbsrc ?e3 ?e4 ?e5 ?e6)
                          case e3 => unfold maxLen; omega
                          case e4 => omega
                          case e5 => omega
                          case e6 =>
                            intro v11 w11 ho11 hg11 _ _ _
                            have hs11 := hg11.size
                            have h1011 : ∀ b, b < K → w11.heap[b]? = w10.heap[b]? := fun b hb => hg11.block b (by omega) (by rw [HK0.out]; simp [Value.ownBlock]; omega)
                            have hm11 := own_same hm10 (fun g hg => h1011 g (hmK g hg))
                            have bel11 : Below w.heap.size w w11 := bel10.grown hg11 (by omega) (fun k hk => by rw [HK0.out] at hk; cases hk; exact hwK)
                            obtain ⟨xm, hxm⟩ : ∃ x, Hid (x = MB.map (Value.int .u8)) := ⟨_, hid_mk rfl⟩
                            have hmsrc := (ownsRow_bytesIn hm11).src
                            rw [← hxm.out] at hmsrc
                            clear hg11 hbsrc ho10
                            go_wp2_with (at_builtin; refine wpList_append_src _ rfl _ _ 22 22 rfl K 5 i0 (.int .u8 0) 1 1 Ybad.underlying22 hi hz0 hz1 hz2 rfl _ bs.length xp rfl _ MB.length xm rfl ho11 hmsrc ?f3 ?f4 ?f5 ?f6)
                            case f3 => unfold maxLen; omega
                            case f4 => omega
                            case f5 => omega
                            case f6 =>
                              intro v12 w12 ho12 hg12 _ _ _
                              have hs12 := hg12.size
                              have h1112 : ∀ b, b < K → w12.heap[b]? = w11.heap[b]? := fun b hb => hg12.block b (by omega) (fun e => by have := (ho11.lt b e.symm).1; omega)
                              have h1012 : ∀ b, b < K → w12.heap[b]? = w10.heap[b]? := fun b hb => (h1112 b hb).trans (h1011 b hb)
                              have bel12 : Below w.heap.size w w12 := bel11.grown hg12 (by omega) (fun k hk => by have := (ho11.lt k hk).1; omega)
                              have hr12 := own_same hr10 (fun g hg => h1012 g (hrK g hg))
                              obtain ⟨xr, hxr⟩ : ∃ x, Hid (x = RB.map (Value.int .u8)) := ⟨_, hid_mk rfl⟩
                              have hrsrc := (ownsRow_bytesIn hr12).src
                              rw [← hxr.out] at hrsrc
                              obtain ⟨x8, hx8⟩ : ∃ x, Hid (x = xp ++ xm) := ⟨_, hid_mk rfl⟩
                              rw [← hx8.out] at ho12
                              clear hg12 hmsrc ho11
                              go_wp2_with (at_builtin; refine wpList_append_src _ rfl _ _ 22 22 rfl K 5 i0 (.int .u8 0) 1 1 Ybad.underlying22 hi hz0 hz1 hz2 rfl _ (bs.length + MB.length) x8 rfl _ RB.length xr rfl ho12 hrsrc ?g3 ?g4 ?g5 ?g6)
                              case g3 => unfold maxLen; omega
                              case g4 => omega
                              case g5 => omega
                              case g6 =>
                                intro v13 w13 ho13 hg13 _ _ _
                                have hs13 := hg13.size
                                have h1013 : ∀ b, b < K → w13.heap[b]? = w10.heap[b]? := fun b hb => (hg13.block b (by omega) (fun e => by have := (ho12.lt b e.symm).1; omega)).trans (h1012 b hb)
                                have bel13 : Below w.heap.size w w13 := bel12.grown hg13 (by omega) (fun k hk => by have := (ho12.lt k hk).1; omega)
                                obtain ⟨X, hX⟩ : ∃ x, Hid (x = bs ++ MB ++ RB) := ⟨_, hid_mk rfl⟩
                                have hXl : X.length = bs.length + MB.length + RB.length := by rw [hX.out]; simp; omega
                                have ho13' : w13.ownsRow K 5 1 v13 X.length (X.map (Value.int .u8)) := by
                                  rw [hXl, hX.out, List.map_append, List.map_append, ← hxp.out, ← hxm.out, ← hxr.out, ← hx8.out]
                                  exact ho13
                                have hbf : Buf K w13 v13.ownBlock v13 X.length v13 X w13 := ⟨ho13', World.grownBy.refl _ _, .inl ⟨rfl, rfl⟩⟩
                                have hXb : X.length ≤ 1500000 := by omega
                                have HGX : Hid (bs ++ MB ++ outR bs.length ms rs = X) := by rw [HOUT.out.1, ← hRB.out, hX.out]; exact hid_mk rfl
                                have HCN : Hid ((mb.length + cntR bs.length ms rs : Nat) = mb.length + rb.length) := by rw [HOUT.out.2, HRL.out]; exact hid_mk rfl
                                clear hg13 hrsrc ho12 ho13 hXl
                                go_wp2_with fail
                                refine (tail_walk K w13 v13.ownBlock v13 X.length v13 X n1 n2 n3 n4 n5 w13 hbf (.inl rfl) h1 h2 h3 h4 h5 hXb (by omega)).mono ?_
                                rintro e w20 ⟨v20, rfl, hb20⟩
                                have h1020 : ∀ b, b < K → w20.heap[b]? = w10.heap[b]? := fun b hb => (hb20.grown.block b (by omega) (fun e => by have := (ho13'.lt b e.symm).1; omega)).trans (h1013 b hb)
                                have hgot20 := own_same hgot10 (fun g hg => h1020 g (hgK g hg))
                                have hb20' := own_same hb10 (fun g hg => h1020 g (by cases hg; exact hBK))
                                have hbs20 := hbs9.mono (fun b hb => (h1020 b (by have := HK0.out; omega)).trans (HK10.out b (by have := HK0.out; omega)))
                                have bel20 : Below w.heap.size w w20 := bel13.grown hb20.grown (by omega) (fun k hk => by have := (ho13'.lt k hk).1; omega)
                                have hexp := hb20.own
                                have hlen := (hM10.kept (h1020 _ hbmK)).len
                                rw [HCN.out] at hlen
                                rw [HGX.out] at hgot20
                                go_wp2_with fail
                                refine (beq_same _ _ (X ++ tailB n1 n2 n3 n4 n5) w20 (ownsRow_bytesIn hgot20) (ownsRow_bytesIn hexp)).mono ?_
                                rintro e w21 ⟨rfl, rfl⟩
                                go_wp2_with fail
                                refine (beq_same _ _ bs w21 (ownsRow_bytesIn hb20') hbs20).mono ?_
                                rintro e w22 ⟨rfl, rfl⟩
                                go_wp2
                                go_ret
                                exact ⟨rfl, bel20⟩
                      · obtain rfl : k = j + 1 := hj.symm
                        have HOUT := hid_mk (out_found (L := bs.length) HOM.out HOR.out (by have := HRL.out; omega) hmj hno)
                        have hjl : j < rb.length := by omega
                        obtain ⟨O, hO⟩ : ∃ O, Hid (O = offAt bs.length ms rs j) := ⟨_, hid_mk rfl⟩
                        have hOl : O ≤ 1278 := by
                          rw [hO.out]
                          unfold offAt
                          have h := congrArg List.length (show wireB ms = wireB (ms.take (ms.length - (rs.length - j))) ++ wireB (ms.drop (ms.length - (rs.length - j))) by rw [← wireB_append, List.take_append_drop])
                          rw [List.length_append] at h
                          omega
                        rw [← hO.out]
                        clear hno hmj hj
                        by_cases hkl : ((j + 1 : Nat) : Int) < (rb.length : Int)
                        all_goals
                          go_wp2_with (at_make; refine wpList_make_own _ rfl _ _ 22 rfl w9.heap.size 5 i0 (.int .u8 0) 1 Ybad.underlying22 hi hz0 hz1 _ _ _ (bs.length + MB.length + RB.length + 22) rfl rfl (by omega) ?m2 ?m3 (Nat.le_refl _) ?_)
                          case m2 => first | omega | (rw [hz2]; omega)
                          case m3 => unfold maxLen; omega
                          intro w10 ho10 hg10
                          obtain ⟨K, hK⟩ : ∃ K, Hid (K = w9.heap.size) := ⟨_, hid_mk rfl⟩
                          have hK10 : ∀ b, b < K → w10.heap[b]? = w9.heap[b]? := fun b hb => hg10.block b (by show b < w9.heap.size; have := hK.out; omega) (by simp)
                          have hs10 : K ≤ w10.heap.size := by have := hK.out; have h : w9.heap.size ≤ w10.heap.size := hg10.size; omega
                          rw [← hK.out] at ho10
                          have hwK : w.heap.size ≤ K := by have := hK.out; have h := (hb9.lt _ rfl).2; omega
                          have bel10 : Below w.heap.size w w10 := bel9.grown (show w9.grownBy w10 none from ⟨hg10.os, hg10.tape, hg10.output, hg10.size, hg10.block⟩) (by have := hK.out; omega) (fun k hk => by cases hk)
                          have hlt9 : ∀ b, b < w9.heap.size → b < K := fun b hb => by have := hK.out; omega
                          have hbs10 := hbs9.mono (fun b hb => hK10 b (hlt9 b hb))
                          have hm10 := own_same hm9 (fun g hg => hK10 g (hlt9 g (hm9.lt g hg).2))
                          have hr10 := own_same hv9' (fun g hg => hK10 g (hlt9 g (hv9'.lt g hg).2))
                          have hgot10 := own_same hgot (fun g hg => hK10 g (hlt9 g (hgot.lt g hg).2))
                          have hb10 := own_same hb9 (fun g hg => hK10 g (hlt9 g (hb9.lt g hg).2))
                          have hBK : B < K := hlt9 B (hb9.lt B rfl).2
                          have hbmK : w4.heap.size < K := hlt9 _ (by omega)
                          have hM10 := hM9.kept (hK10 _ hbmK)
                          have srs10 := srs9.mono (fun b hb => hK10 b (by omega))
                          have hmK : ∀ g, (Value.slice v8a MB.length v8c).ownBlock = some g → g < K := fun g hg => hlt9 g (hm9.lt g hg).2
                          have hrK : ∀ g, (Value.slice v9a RB.length v9c).ownBlock = some g → g < K := fun g hg => hlt9 g (hv9'.lt g hg).2
                          have hgK : ∀ g, v7.ownBlock = some g → g < K := fun g hg => hlt9 g (hgot.lt g hg).2
                          obtain ⟨xp, hxp⟩ : ∃ x, Hid (x = bs.map (Value.int .u8)) := ⟨_, hid_mk rfl⟩
                          have hbsrc := hbs10.src
                          rw [← hxp.out] at hbsrc
                          have HK0 : Hid (w9.heap.size = K) := hid_mk hK.out.symm
                          have HK10 := hid_mk hK10
                          clear hg10 hK10 hlt9 hm9 hv9' hgot hb9 hM9 srs9 sms9 bel9
                          go_wp2_with (at_builtin; refine wpList_append_src _ rfl _ _ 22 22 rfl K 5 i0 (.int .u8 0) 1 1 Ybad.underlying22 hi hz0 hz1 hz2 rfl _ 0 [] rfl _ bs.length xp rfl (by first | exact ho10 | (rw [HK0.out]; exact ho10)) hbsrc ?e3 ?e4 ?e5 ?e6)
                          case e3 => unfold maxLen; omega
                          case e4 => omega
                          case e5 => omega
                          case e6 =>
                            intro v11 w11 ho11 hg11 _ _ _
                            have hs11 := hg11.size
                            have h1011 : ∀ b, b < K → w11.heap[b]? = w10.heap[b]? := fun b hb => hg11.block b (by omega) (by rw [HK0.out]; simp [Value.ownBlock]; omega)
                            have hm11 := own_same hm10 (fun g hg => h1011 g (hmK g hg))
                            have bel11 : Below w.heap.size w w11 := bel10.grown hg11 (by omega) (fun k hk => by rw [HK0.out] at hk; cases hk; exact hwK)
                            obtain ⟨xm, hxm⟩ : ∃ x, Hid (x = MB.map (Value.int .u8)) := ⟨_, hid_mk rfl⟩
                            have hmsrc := (ownsRow_bytesIn hm11).src
                            rw [← hxm.out] at hmsrc
                            clear hg11 hbsrc ho10
                            go_wp2_with (at_builtin; refine wpList_append_src _ rfl _ _ 22 22 rfl K 5 i0 (.int .u8 0) 1 1 Ybad.underlying22 hi hz0 hz1 hz2 rfl _ bs.length xp rfl _ MB.length xm rfl ho11 hmsrc ?f3 ?f4 ?f5 ?f6)
                            case f3 => unfold maxLen; omega
                            case f4 => omega
                            case f5 => omega
                            case f6 =>
                              intro v12 w12 ho12 hg12 _ _ _
                              have hs12 := hg12.size
                              have h1112 : ∀ b, b < K → w12.heap[b]? = w11.heap[b]? := fun b hb => hg12.block b (by omega) (fun e => by have := (ho11.lt b e.symm).1; omega)
                              have h1012 : ∀ b, b < K → w12.heap[b]? = w10.heap[b]? := fun b hb => (h1112 b hb).trans (h1011 b hb)
                              have bel12 : Below w.heap.size w w12 := bel11.grown hg12 (by omega) (fun k hk => by have := (ho11.lt k hk).1; omega)
                              have srs12 := srs10.mono (fun b hb => h1012 b (by omega))
                              obtain ⟨X, hX⟩ : ∃ x, Hid (x = bs ++ MB) := ⟨_, hid_mk rfl⟩
                              have hXl : X.length = bs.length + MB.length := by rw [hX.out]; simp
                              have hXl2 : X.length ≤ 1300 := by omega
                              have ho12' : w12.ownsRow K 5 1 v12 X.length (X.map (Value.int .u8)) := by
                                rw [hXl, hX.out, List.map_append, ← hxp.out, ← hxm.out]
                                exact ho12
                              have hv12K : ∀ g, v12.ownBlock = some g → K ≤ g := fun g hg => (ho12'.lt g hg).1
                              clear hg12 hmsrc ho11 ho12 hXl
                              go_wp2
                              go_loopw [35, 37] (fun v i wr => ∃ t : Nat, t ≤ j ∧ i = .int .i64 t ∧ Buf K w12 v12.ownBlock v12 X.length v (X ++ wireB (rs.take t)) wr) (fun _ i _ => j - (intOf i).toNat)
                              case atStart => exact ⟨0, Nat.zero_le _, rfl, by simpa [wireB] using ho12', World.grownBy.refl _ _, .inl ⟨rfl, by simp [wireB]⟩⟩
                              case round =>
                                obtain ⟨t, ht, rfl, hbuf⟩ := hrel
                                have hsr := hbuf.grown.size
                                have hwl : (wireB (rs.take t)).length ≤ 254 := by
                                  have h := congrArg List.length (show wireB rs = wireB (rs.take t) ++ wireB (rs.drop t) by rw [← wireB_append, List.take_append_drop])
                                  rw [List.length_append] at h
                                  omega
                                have h12r : ∀ b, b < K → wr.heap[b]? = w12.heap[b]? := fun b hb => hbuf.grown.block b (by omega) (fun e => by have := hv12K b e.symm; omega)
                                by_cases hlt2 : t < j
                                · obtain ⟨s, hs⟩ : ∃ s, rs[t]? = some s := ⟨rs[t]'(by have := HRL.out; omega), by simp [show t < rs.length by have := HRL.out; omega]⟩
                                  obtain ⟨b', off', he', hb', hc⟩ := srs12 t s hs
                                  cases he'
                                  rw [Nat.zero_add] at hc
                                  have c0 : wr.cell? ⟨wA.heap.size, t, none⟩ = some (.string s) := (World.cell?_of_block (w := w12) (a := ⟨wA.heap.size, t, none⟩) (h12r wA.heap.size (by omega))).trans hc
                                  have HW := hid_mk (wireB_succ rs t s hs)
                                  have HS2 := hid_mk hs
                                  have hso := HOR.out s (List.mem_of_getElem? hs)
                                  have hwrB : K ≤ wr.heap.size := by omega
                                  clear hs hc h12r
                                  obtain ⟨Z, hZ⟩ : ∃ Z, Hid (Z = X ++ wireB (rs.take t)) := ⟨_, hid_mk rfl⟩
                                  have hZl : Z.length ≤ 2000 := by rw [hZ.out, List.length_append]; omega
                                  rw [← hZ.out] at hbuf
                                  go_wp2_with (at_builtin; refine wpList_append_src _ rfl _ _ 22 22 rfl K 5 i0 (.int .u8 0) 1 1 Ybad.underlying22 hi hz0 hz1 hz2 rfl _ Z.length (Z.map (Value.int .u8)) rfl _ 1 [.int .u8 (s.size : Int)] rfl ?a1 ?a2 ?a3 ?a4 ?a5 ?a6)
                                  case a1 => exact hbuf.own.alloc _
                                  case a2 => exact Src.ofSlice _ Ybad.underlying22 _ _ _ _ rfl (World.news_of_block (heap_new _ _ _ (by simp))) (ints_one .u8 [_])
                                  case a3 => unfold maxLen; omega
                                  case a4 => omega
                                  case a5 => first | omega | (simp; omega)
                                  case a6 =>
                                    intro v13 w13 ho13 hg13 _ hat13 hfull13
                                    have hbuf1 : Buf K w12 v12.ownBlock v12 X.length v13 (Z ++ [(s.size : Int)]) w13 := hbuf.step (.inl rfl) (by simp) (World.grownBy_alloc _ _ _) ho13 hg13 (by simpa using hat13) (by simpa using hfull13)
                                    have hs13 := hbuf1.grown.size
                                    have hc13 : w13.cell? ⟨wA.heap.size, t, none⟩ = some (.string s) := by
                                      obtain ⟨b', off', he', hb', hc⟩ := srs12 t s HS2.out
                                      cases he'
                                      rw [Nat.zero_add] at hc
                                      exact (World.cell?_of_block (w := w12) (a := ⟨wA.heap.size, t, none⟩) (hbuf1.grown.block wA.heap.size (by omega) (fun e => by have := hv12K wA.heap.size e.symm; omega))).trans hc
                                    have hZs : (Z ++ [(s.size : Int)]).length = Z.length + 1 := by simp
                                    obtain ⟨Y, hY⟩ : ∃ Y, Hid (Y = Z ++ [(s.size : Int)]) := ⟨_, hid_mk rfl⟩
                                    rw [← hY.out] at hbuf1 hZs
                                    have hYl : Y.length ≤ 2001 := by omega
                                    clear hbuf ho13 hg13 hat13 hfull13 hZs c0
                                    go_wp2_with (at_builtin; refine wpList_append_src _ rfl _ _ 22 9 rfl K 5 i0 (.int .u8 0) 1 1 Ybad.underlying22 hi hz0 hz1 hz2 rfl _ Y.length (Y.map (Value.int .u8)) rfl _ s.size (byteCells s) rfl hbuf1.own (Src.ofString _ Ybad.underlying9 s) ?b3 ?b4 ?b5 ?b6)
                                    case b3 => unfold maxLen; omega
                                    case b4 => omega
                                    case b5 => omega
                                    case b6 =>
                                      intro v14 w14 ho14 hg14 _ hat14 hfull14
                                      have hbuf2 : Buf K w12 v12.ownBlock v12 X.length v14 (Y ++ bytesI s) w14 := hbuf1.step (.inl rfl) (by rw [bytesI_len]; omega) (World.grownBy.refl _ _) (by rw [bytesI_len, ← byteCells_eq]; exact ho14) hg14 hat14 (by rw [bytesI_len]; exact hfull14)
                                      have HB : Hid (Buf K w12 v12.ownBlock v12 X.length v14 (X ++ wireB (rs.take (t + 1))) w14) := by
                                        rw [hY.out, hZ.out] at hbuf2
                                        rw [HW.out]
                                        refine hid_mk ?_
                                        have e : X ++ (wireB (rs.take t) ++ ((s.size : Int) :: bytesI s)) = X ++ wireB (rs.take t) ++ [(s.size : Int)] ++ bytesI s := by simp
                                        rw [e]
                                        exact hbuf2
                                      clear hbuf2 hbuf1 ho14 hg14 hat14 hfull14
                                      go_wp2
                                      go_roundw
                                      case rel => exact ⟨t + 1, by omega, by go_num, HB.out⟩
                                      case measure => simp [intOf]; omega
                                · obtain rfl : t = j := by omega
                                  obtain ⟨Z, hZ⟩ : ∃ Z, Hid (Z = X ++ wireB (rs.take t)) := ⟨_, hid_mk rfl⟩
                                  have hZl : Z.length ≤ 2000 := by rw [hZ.out, List.length_append]; omega
                                  rw [← hZ.out] at hbuf
                                  have hwrB : K ≤ wr.heap.size := by omega
                                  clear h12r
                                  go_wp2_with (at_builtin; refine wpList_append_src _ rfl _ _ 22 22 rfl K 5 i0 (.int .u8 0) 1 1 Ybad.underlying22 hi hz0 hz1 hz2 rfl _ Z.length (Z.map (Value.int .u8)) rfl _ 2 ([192 + (O : Int) / 256, (O : Int) % 256].map (Value.int .u8)) rfl ?d1 ?d2 ?d3 ?d4 ?d5 ?d6)
                                  case d1 => exact hbuf.own.alloc _
                                  case d2 => exact Src.ofSlice _ Ybad.underlying22 _ _ _ _ rfl (World.news_of_block (heap_new _ _ _ (by simp))) (ints_one .u8 _)
                                  case d3 => unfold maxLen; omega
                                  case d4 => omega
                                  case d5 => first | omega | (simp; omega)
                                  case d6 =>
                                    intro v13 w13 ho13 hg13 _ hat13 hfull13
                                    have hbuf1 : Buf K w12 v12.ownBlock v12 X.length v13 (Z ++ [192 + (O : Int) / 256, (O : Int) % 256]) w13 := hbuf.step (.inl rfl) (by simp) (World.grownBy_alloc _ _ _) ho13 hg13 (by simpa using hat13) (by simpa using hfull13)
                                    have hs13 := hbuf1.grown.size
                                    have h1013 : ∀ b, b < K → w13.heap[b]? = w10.heap[b]? := fun b hb => (hbuf1.grown.block b (by omega) (fun e => by have := hv12K b e.symm; omega)).trans (h1012 b hb)
                                    have bel13 : Below w.heap.size w w13 := bel12.grown hbuf1.grown (by omega) (fun k hk => by have := hv12K k hk; omega)
                                    obtain ⟨X2, hX2⟩ : ∃ x, Hid (x = Z ++ [192 + (O : Int) / 256, (O : Int) % 256]) := ⟨_, hid_mk rfl⟩
                                    rw [← hX2.out] at hbuf1
                                    have ho13' := hbuf1.own
                                    have hXb : X2.length ≤ 1500000 := by rw [hX2.out]; simp; omega
                                    have hbf : Buf K w13 v13.ownBlock v13 X2.length v13 X2 w13 := ⟨ho13', World.grownBy.refl _ _, .inl ⟨rfl, rfl⟩⟩
                                    have HGX : Hid (bs ++ MB ++ outR bs.length ms rs = X2) := by rw [HOUT.out.1, ← hO.out, hX2.out, hZ.out, hX.out]; exact hid_mk (by simp [ptrB])
                                    have HCN : Hid ((mb.length + cntR bs.length ms rs : Nat) = mb.length + t) := by rw [HOUT.out.2]; exact hid_mk rfl
                                    clear hbuf hbuf1 ho13 hg13 hat13 hfull13
                                    go_wp2_with fail
                                    refine (tail_walk K w13 v13.ownBlock v13 X2.length v13 X2 n1 n2 n3 n4 n5 w13 hbf (.inl rfl) h1 h2 h3 h4 h5 hXb (by omega)).mono ?_
                                    rintro e w20 ⟨v20, rfl, hb20⟩
                                    have h1020 : ∀ b, b < K → w20.heap[b]? = w10.heap[b]? := fun b hb => (hb20.grown.block b (by omega) (fun e => by have := (ho13'.lt b e.symm).1; omega)).trans (h1013 b hb)
                                    have hgot20 := own_same hgot10 (fun g hg => h1020 g (hgK g hg))
                                    have hb20' := own_same hb10 (fun g hg => h1020 g (by cases hg; exact hBK))
                                    have hbs20 := hbs9.mono (fun b hb => (h1020 b (by have := HK0.out; omega)).trans (HK10.out b (by have := HK0.out; omega)))
                                    have bel20 : Below w.heap.size w w20 := bel13.grown hb20.grown (by omega) (fun k hk => by have := (ho13'.lt k hk).1; omega)
                                    have hexp := hb20.own
                                    have hlen := (hM10.kept (h1020 _ hbmK)).len
                                    rw [HCN.out] at hlen
                                    rw [HGX.out] at hgot20
                                    go_wp2_with fail
                                    refine (beq_same _ _ (X2 ++ tailB n1 n2 n3 n4 n5) w20 (ownsRow_bytesIn hgot20) (ownsRow_bytesIn hexp)).mono ?_
                                    rintro e w21 ⟨rfl, rfl⟩
                                    go_wp2_with fail
                                    refine (beq_same _ _ bs w21 (ownsRow_bytesIn hb20') hbs20).mono ?_
                                    rintro e w22 ⟨rfl, rfl⟩
                                    go_wp2
                                    go_ret
                                    exact ⟨rfl, bel20⟩
      · have q1 : ¬ (1024 : Int) < bs.length := by omega
        have q2 : ¬ (1024 : Int) < mb.length := by omega
        have q3 : (1024 : Int) < rb.length := by omega
        go_enter Ybad.func4, Ybad.ntmps4
        go_wp2
        go_ret
        exact ⟨rfl, Below.refl _ _⟩
    · have q1 : ¬ (1024 : Int) < bs.length := by omega
      have q2 : (1024 : Int) < mb.length := by omega
      go_enter Ybad.func4, Ybad.ntmps4
      go_wp2
      go_ret
      exact ⟨rfl, Below.refl _ _⟩
  · have q1 : (1024 : Int) < bs.length := by omega
    go_enter Ybad.func4, Ybad.ntmps4
    go_wp2
    go_ret
    exact ⟨rfl, Below.refl _ _⟩
end Go.Proofs.YbulkbzsgDoor

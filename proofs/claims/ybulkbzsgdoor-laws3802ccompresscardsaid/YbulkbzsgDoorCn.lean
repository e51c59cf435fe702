import Derived.Test.YbulkbzsgDoorComp
import Derived.Deep.RegionHeld3
import Derived.Deep.RegionWith
import Derived.Deep.DrawnRows
namespace Go.Proofs.YbulkbzsgDoor
open Go.RowKit
open Go.Maps (Keyed string_keyed)
set_option linter.unusedVariables false
set_option linter.unusedSimpArgs false
attribute [local go_sem ↓] Go.wp_at_zero Go.wp_at_succ

/-- What lay there is as it was, but for a row and the map. -/
structure G2 (w w' : World) (row : Option Nat) (bm : Nat) : Prop where
  os : w'.os = w.os
  tape : w'.tape = w.tape
  output : w'.output = w.output
  size : w.heap.size ≤ w'.heap.size
  block : ∀ i, i < w.heap.size → some i ≠ row → i ≠ bm → w'.heap[i]? = w.heap[i]?

theorem G2.of_grown {w w' : World} {row : Option Nat} {bm : Nat} (h : w.grownBy w' row) : G2 w w' row bm := ⟨h.os, h.tape, h.output, h.size, fun i hi h1 _ => h.block i hi h1⟩

theorem G2.step {w w1 w2 : World} {row r2 : Option Nat} {bm : Nat} (h : G2 w w1 row bm) (k : w1.grownBy w2 r2) (hr : ∀ g, r2 = some g → some g = row ∨ g = bm ∨ w.heap.size ≤ g) : G2 w w2 row bm :=
  ⟨k.os.trans h.os, k.tape.trans h.tape, k.output.trans h.output, Nat.le_trans h.size k.size, fun i hi h1 h2 =>
    (k.block i (Nat.lt_of_lt_of_le hi h.size) (fun e => by
      rcases hr i e.symm with h' | h' | h'
      · exact h1 h'
      · exact h2 h'
      · omega)).trans (h.block i hi h1 h2)⟩

theorem G2.trans {w w1 w2 : World} {row r2 : Option Nat} {bm : Nat} (h : G2 w w1 row bm) (k : G2 w1 w2 r2 bm) (hr : ∀ g, r2 = some g → some g = row ∨ g = bm ∨ w.heap.size ≤ g) : G2 w w2 row bm :=
  ⟨k.os.trans h.os, k.tape.trans h.tape, k.output.trans h.output, Nat.le_trans h.size k.size, fun i hi h1 h2 =>
    (k.block i (Nat.lt_of_lt_of_le hi h.size) (fun e => by
      rcases hr i e.symm with h' | h' | h'
      · exact h1 h'
      · exact h2 h'
      · omega) h2).trans (h.block i hi h1 h2)⟩

/-- A shorter slice of the same row. -/
theorem ownsRow_take {w : World} {B g n c p : Nat} {xs : List Int} (h : w.ownsRow B 5 1 (.slice (some ⟨g, 0, none⟩) n c) n (xs.map (Value.int .u8))) (hp : p ≤ n) : w.ownsRow B 5 1 (.slice (some ⟨g, 0, none⟩) p c) p ((xs.take p).map (Value.int .u8)) := by
  have hl := h.1
  rcases h.2 with ⟨h', _⟩ | ⟨g', cap, cur, hv, hb, hh, h1, h2, h3, h4⟩
  · cases h'
  · cases hv
    refine ⟨by simp at hl ⊢; omega, .inr ⟨g, c, cur, rfl, hb, hh, by omega, h2, h3, ?_⟩⟩
    have := congrArg (List.take p) h4
    rw [List.take_take] at this
    simp only [Nat.mul_one] at this ⊢
    rw [Nat.min_eq_left hp] at this
    rw [this, List.map_take]

set_option maxHeartbeats 400000 in
theorem au16 (B g p c : Nat) (xs : List Int) (x : Int) (w : World) (hown : w.ownsRow B 5 1 (.slice (some ⟨g, 0, none⟩) p c) p (xs.map (Value.int .u8))) (hx0 : 0 ≤ x) (hx1 : x ≤ 65535) (hl : p ≤ 2000000) (hB : B ≤ w.heap.size) :
    Calls Ybad.prog 15 #[.agg #[], .slice (some ⟨g, 0, none⟩) p c, .int .u16 x] w fun e w' => ∃ v', e = .returned v' ∧ w'.ownsRow B 5 1 v' (p + 2) ((xs ++ [x / 256, x % 256]).map (Value.int .u8)) ∧ w.grownBy w' (some g) ∧ (v'.ownBlock = some g ∨ ∀ g', v'.ownBlock = some g' → w.heap.size ≤ g') := by
  obtain ⟨i0, hi, hz0, hz1, hz2⟩ := info_parts Ybad.info5
  go_enter Ybad.func15, Ybad.ntmps15
  go_wp2_with (at_builtin; refine wpList_append_src _ rfl _ _ 22 22 rfl B 5 i0 (.int .u8 0) 1 1 Ybad.underlying22 hi hz0 hz1 hz2 rfl _ p (xs.map (Value.int .u8)) rfl _ 2 ([x / 256, x % 256].map (Value.int .u8)) rfl ?a1 ?a2 ?a3 ?a4 ?a5 ?a6)
  case a1 => exact (hown.alloc _).alloc _
  case a2 => exact Src.ofSlice _ Ybad.underlying22 _ _ _ _ rfl (World.news_of_block (heap_new _ _ _ (by simp))) (ints_one .u8 _)
  case a3 => unfold maxLen; omega
  case a4 => omega
  case a5 => first | omega | (simp; omega)
  case a6 =>
    intro v' w1 ho1 hg1 _ hat1 hfull1
    go_wp2
    go_ret
    refine ⟨v', rfl, by rw [List.map_append]; exact ho1, ((World.grownBy_alloc _ _ _).trans (World.grownBy_alloc _ _ _)).trans hg1, ?_⟩
    rcases hat1 with h | h
    · left; rw [h]; rfl
    · right; intro g' hg; rw [h] at hg; simp at hg; omega

def CmpTo (f : Tab) (ss : List ByteArray) (off i : Nat) (fi : Tab) : Prop :=
  comp f ss off = (wireB (ss.take i) ++ (comp fi (ss.drop i) (off + (wireB (ss.take i)).length)).1, (comp fi (ss.drop i) (off + (wireB (ss.take i)).length)).2.1, (comp fi (ss.drop i) (off + (wireB (ss.take i)).length)).2.2 + i)

theorem CmpTo.start (f : Tab) (ss : List ByteArray) (off : Nat) : CmpTo f ss off 0 f := by simp [CmpTo, wireB]

theorem drop_cons {ss : List ByteArray} {i : Nat} {s : ByteArray} (h : ss[i]? = some s) : ss.drop i = s :: ss.drop (i + 1) := by
  have hl : i < ss.length := by
    rcases Nat.lt_or_ge i ss.length with hlt | hge
    · exact hlt
    · rw [List.getElem?_eq_none hge] at h; cases h
  have : ss[i] = s := by rw [List.getElem?_eq_getElem hl] at h; exact Option.some.inj h
  rw [List.drop_eq_getElem_cons hl, this]

theorem CmpTo.next {f fi : Tab} {ss : List ByteArray} {off i : Nat} {s : ByteArray} (h : CmpTo f ss off i fi) (hs : ss[i]? = some s) (hno : fi (nameK (ss.drop i)) = none) : CmpTo f ss off (i + 1) (put fi (nameK (ss.drop i)) ((off + (wireB (ss.take i)).length : Nat) : Int)) := by
  unfold CmpTo at h ⊢
  rw [wireB_succ ss i s hs, List.length_append, List.length_cons, bytesI_len]
  rw [h]
  have hd := drop_cons hs
  rw [hd] at hno ⊢
  have e : off + (wireB (ss.take i)).length + (1 + s.size) = off + ((wireB (ss.take i)).length + (s.size + 1)) := by omega
  simp only [comp, hno, e]
  refine Prod.ext ?_ (Prod.ext rfl ?_)
  · simp
  · simp only []; omega

theorem CmpTo.stop {f fi : Tab} {ss : List ByteArray} {off i : Nat} {s : ByteArray} {c : Int} (h : CmpTo f ss off i fi) (hs : ss[i]? = some s) (hc : fi (nameK (ss.drop i)) = some c) : comp f ss off = (wireB (ss.take i) ++ ptrB c, fi, i) := by
  unfold CmpTo at h
  rw [h]
  rw [drop_cons hs] at hc ⊢
  simp [comp, hc]

theorem CmpTo.fin {f fi : Tab} {ss : List ByteArray} {off : Nat} (h : CmpTo f ss off ss.length fi) : comp f ss off = (wireB ss ++ [0], fi, ss.length) := by
  unfold CmpTo at h
  rw [h, List.take_length, List.drop_length]
  simp [comp]

theorem xdrop (xs0 : List Int) (ss : List ByteArray) (i : Nat) : (xs0 ++ (wireB ss ++ [0])).drop (xs0.length + (wireB (ss.take i)).length) = wireB (ss.drop i) ++ [0] := by
  have h : wireB ss = wireB (ss.take i) ++ wireB (ss.drop i) := by rw [← wireB_append, List.take_append_drop]
  rw [h, List.append_assoc, List.drop_append]
  simp

theorem xtake (xs0 : List Int) (ss : List ByteArray) (i : Nat) : (xs0 ++ (wireB ss ++ [0])).take (xs0.length + (wireB (ss.take i)).length) = xs0 ++ wireB (ss.take i) := by
  have h : wireB ss = wireB (ss.take i) ++ wireB (ss.drop i) := by rw [← wireB_append, List.take_append_drop]
  have e : xs0 ++ (wireB ss ++ [0]) = (xs0 ++ wireB (ss.take i)) ++ (wireB (ss.drop i) ++ [0]) := by rw [h]; simp
  rw [e]
  exact List.take_left' (by simp)

theorem xat {X : List Int} {P : Nat} {y : Int} {Y : List Int} (h : X.drop P = y :: Y) : X[P]? = some y := by
  have := congrArg (fun l => l[0]?) h
  simpa using this

theorem or_ptr (t : Nat) (h : t < 16384) : (49152 ||| t) = 49152 + t := by
  have := Nat.two_pow_add_eq_or_of_lt (i := 14) (b := t) (by simpa using h) 3
  simpa using this.symm

theorem conv_drop {w : World} {B g c : Nat} {X : List Int} (h : w.ownsRow B 5 1 (.slice (some ⟨g, 0, none⟩) X.length c) X.length (X.map (Value.int .u8))) (P : Nat) (hP : P ≤ X.length) (c' : Nat) :
    (convert 22 9 (.slice (some ⟨g, P, none⟩) (X.length - P) c')).run Ybad.prog w = .ok (.string (strOfNums (X.drop P))) w := by
  have hb : BytesIn w (.slice (some ⟨g, P, none⟩) (X.length - P) c') (X.drop P) := by
    refine ⟨some ⟨g, P, none⟩, c', by simp, (fun h => by cases h), fun x hx j u hu => ?_⟩
    cases hx
    rw [List.map_drop, List.getElem?_drop] at hu
    have := h.cells (g := g) rfl (P + j) u hu
    simpa [Go.WideShapes.add_plain] using this
  exact hb.conv

theorem or16 (t : Int) (h0 : 0 ≤ t) (h1 : t < 16384) : bits BinOp.or IntKind.u16 49152 (IntKind.u16.wrap t) = 49152 + t := by
  have hw : IntKind.u16.wrap t = t := by simp only [IntKind.wrap, IntKind.bits, IntKind.signed]; simp; omega
  rw [hw]
  exact bits_join .u16 16 (by decide) (fun n h0 h1 => by simp only [IntKind.wrap, IntKind.bits, IntKind.signed]; simp; omega) 14 49152 t (by decide) (by decide) (by decide) h0 (by simpa using h1) (by simp; omega)

set_option maxHeartbeats 1000000 in
set_option maxRecDepth 100000 in
theorem cn_map (B : Nat) (v0 : Value) (xs0 : List Int) (row : Option Nat) (na : Option Addr) (nc : Nat) (ss : List ByteArray) (E1 E2 E3 : Value) (bm n : Nat) (f : Tab) (w : World) (hE : Errs E1 E2 E3 w) (hB : 4 ≤ B) (hBw : B ≤ w.heap.size)
    (hss : StrsIn B w na ss) (hlen : ss.length ≤ 1024) (hxl : xs0.length ≤ 2000) (hown : w.ownsRow B 5 1 v0 xs0.length (xs0.map (Value.int .u8))) (hrow : RowOk row v0 xs0.length)
    (hn : ∀ k, 0 < k → ∃ t x, errV E1 E2 E3 k = .iface t x) (hmap : MapIs w bm f n) (hnl : n ≤ 10000) (hbr : some bm ≠ row) (hbB : B ≤ bm) (hbw : bm < w.heap.size) (hf : ∀ s c, f s = some c → 0 ≤ c ∧ c < 16384) :
    Calls Ybad.prog 11 #[.map (some bm), v0, .slice na ss.length nc] w fun e w' => ∃ v', e = .returned (.tuple #[v', errV E1 E2 E3 (nameErr 1 ss)]) ∧ G2 w w' row bm ∧
      (nameErr 1 ss ≠ 0 → MapIs w' bm f n) ∧
      (nameErr 1 ss = 0 → w'.ownsRow B 5 1 v' (xs0 ++ (comp f ss xs0.length).1).length ((xs0 ++ (comp f ss xs0.length).1).map (Value.int .u8)) ∧ (∀ g, v'.ownBlock = some g → some g = row ∨ w.heap.size ≤ g) ∧ MapIs w' bm (comp f ss xs0.length).2.1 (n + (comp f ss xs0.length).2.2)) := by
  obtain ⟨a0, c0, rfl⟩ := ownsRow_shape hown
  go_enter Ybad.func11, Ybad.ntmps11
  go_wp2_with fail
  refine (an_walk B _ xs0 row na nc ss E1 E2 E3 w hE hB hBw hss hlen (by omega) hown hrow).mono ?_
  rintro e w1 ⟨v', rfl, hg, hbuf⟩
  obtain ⟨k, hk⟩ : ∃ k, Hid (k = nameErr 1 ss) := ⟨_, rfl⟩
  rw [← hk.out] at hbuf ⊢
  have hbm1 : w1.heap[bm]? = w.heap[bm]? := hg.block bm hbw hbr
  cases k with
  | succ k =>
    obtain ⟨t, x, hx⟩ := hn (k + 1) (by omega)
    have Hx := hid_mk hx
    rw [hx]
    clear hx
    go_wp2
    go_ret2
    exact ⟨v', by rw [← hk.out, Hx.out]; rfl, G2.of_grown hg, fun _ => hmap.kept hbm1, fun h => by rw [← hk.out] at h; cases h⟩
  | zero =>
    have h0 : errV E1 E2 E3 0 = .nilIface := rfl
    rw [h0]
    have hm := fun w => run_eql_map_nil (P := Ybad.prog) w 38 9 3 (some bm) Ybad.underlying38
    have hbuf1 := hbuf rfl
    have hwl := wire_len ss hk.out.symm
    have hok := ok_of_err ss 1 hk.out.symm
    have hloc : ∀ g, v'.ownBlock = some g → some g = row ∨ w.heap.size ≤ g := by
      rcases hbuf1.loc with ⟨_, h⟩ | h
      · simp at h
      · exact h
    obtain ⟨X, hX⟩ : ∃ X, Hid (X = xs0 ++ (wireB ss ++ [0])) := ⟨_, hid_mk rfl⟩
    have HXL : Hid (X.length = xs0.length + (wireB ss).length + 1) := hid_mk (by rw [hX.out]; simp; omega)
    have hXl : X.length ≤ 2300 := by have := HXL.out; omega
    have hXl0 : 0 < X.length := by have := HXL.out; omega
    have hxo := hbuf1.own
    rw [← hX.out] at hxo
    obtain ⟨g, c, rfl⟩ : ∃ g c, v' = .slice (some ⟨g, 0, none⟩) X.length c := by
      rcases hxo.2 with ⟨_, h⟩ | ⟨g', cap, cur, hv, _⟩
      · omega
      · exact ⟨g', cap, hv⟩
    have hgb : g ≠ bm := by
      rcases hloc g rfl with h | h
      · exact fun e => hbr (by rw [← e]; exact h)
      · omega
    have hg1 := (hxo.lt g rfl).2
    clear h0 hbuf hbuf1
    have hXc : X.length ≤ c := by
      rcases hxo.2 with ⟨_, h⟩ | ⟨g', cap, cur, hv, _, _, h, _⟩
      · omega
      · cases hv; exact h
    have hcm : c ≤ maxLen := by
      rcases hxo.2 with ⟨_, h⟩ | ⟨g', cap, cur, hv, _, _, _, h, _⟩
      · omega
      · cases hv; exact h
    unfold maxLen at hcm
    have hm1 := hmap.kept hbm1
    have hs1 := hg.size
    go_wp2
    go_loopw [10] (fun p wr => ∃ (i : Nat) (fi : Tab), i ≤ ss.length ∧ p = .int .i64 ((xs0.length + (wireB (ss.take i)).length : Nat) : Int) ∧ w1.grownBy wr (some bm) ∧ MapIs wr bm fi (n + i) ∧ CmpTo f ss xs0.length i fi ∧ (∀ s c, fi s = some c → 0 ≤ c ∧ c < 16384))
      (fun p _ => X.length - (intOf p).toNat)
    case atStart => exact ⟨0, f, Nat.zero_le _, rfl, World.grownBy.refl _ _, hm1, CmpTo.start _ _ _, hf⟩
    case round =>
      obtain ⟨i, fi, hi, rfl, hgr, hmi, hcmp, hfi⟩ := hrel
      obtain ⟨P, hP⟩ : ∃ P, Hid (P = xs0.length + (wireB (ss.take i)).length) := ⟨_, hid_mk rfl⟩
      have hxr := own_same hxo (fun g' hg' => hgr.block g' (by cases hg'; exact hg1) (by cases hg'; simpa using hgb))
      have hd : X.drop P = wireB (ss.drop i) ++ [0] := by rw [hX.out, hP.out]; exact xdrop xs0 ss i
      have htk : X.take P = xs0 ++ wireB (ss.take i) := by rw [hX.out, hP.out]; exact xtake xs0 ss i
      have hPl : P < X.length := by
        have := congrArg List.length hd
        simp only [List.length_drop, List.length_append, List.length_cons] at this
        omega
      have hcell : ∀ y Y, X.drop P = y :: Y → wr.cell? ⟨g, P, none⟩ = some (.int .u8 y) := fun y Y h => by
        have h1 := hxr.cells (g := g) rfl P (.int .u8 y) (by rw [List.getElem?_map, xat h]; rfl)
        simpa [Go.WideShapes.add_plain] using h1
      have HD := hid_mk hd
      have HTK := hid_mk htk
      have HCM := hid_mk hcmp
      have hszr := hgr.size
      rw [← hP.out]
      have HCO := hid_mk (conv_drop hxr P (by omega))
      by_cases hlt : i < ss.length
      · obtain ⟨s, hs⟩ : ∃ s, ss[i]? = some s := ⟨ss[i], by simp [hlt]⟩
        have hso := hok s (List.mem_of_getElem? hs)
        have hsc := hcell (s.size : Int) (bytesI s ++ wireB (ss.drop (i + 1)) ++ [0]) (by rw [hd, drop_cons hs]; simp [wireB])
        have hne : ¬ ((s.size : Int) = 0) := by omega
        have HS := hid_mk hs
        clear hs hd htk hcmp hcell
        obtain ⟨S, hS⟩ : ∃ S, Hid (S = strOfNums (X.drop P)) := ⟨_, hid_mk rfl⟩
        rw [← hS.out] at HCO
        have hconv := HCO.out (c - P)
        have hkey : keyOf Ybad.prog 9 (.string S) = some (.string (nameK (ss.drop i))) := by
          rw [Go.WideMaps.keyOf_string_mk Ybad.underlying9 (by rw [hS.out, strOfNums_size]; simp [maxLen]; omega), hS.out, strOfNums_data, HD.out]; rfl
        obtain ⟨K, hK⟩ : ∃ K, Hid (K = nameK (ss.drop i)) := ⟨_, hid_mk rfl⟩
        rw [← hK.out] at hkey
        have hmi' := hmi
        obtain ⟨D, hDo, hDs, hDh⟩ := hmi
        have hDt := hDo.tidy klaw
        have HDH := hid_mk hDh
        have hhas := (hDh K).1
        cases hfk : fi K with
        | none =>
          rw [hfk] at hhas
          simp only [Option.isSome_none] at hhas
          have HN := hid_mk hfk
          have hPm : (P : Int) ≤ 16383 := by omega
          clear hfk hDh HCO
          have hwf : (Lit.int .i64 (P : Int)).wf = true := WalkArith.wf_i64 (by omega)
          go_wp2_with (first | (at_lookup; refine wpList_lookup_own_ok_int _ rfl _ _ 38 rfl 9 3 .i64 klaw Ybad.underlying38 Ybad.underlying3 (zero3 _) bm (n + i) D rfl hDo _ _ rfl hkey ?_; intro c' hat hwc) | (at_mapUpdate; refine wpList_mapUpdate_own _ rfl _ _ _ 38 rfl 9 3 klaw Ybad.underlying38 _ bm (n + i) _ rfl hDo (by unfold maxLen; omega) _ _ _ rfl rfl hkey _ [] (plainElem_int Ybad.underlying3 hwf) ?_; intro w2 hown2 hgrow2; have hsc2 : w2.cell? ⟨g, P, none⟩ = some (.int .u8 (s.size : Int)) := (World.cell?_of_block (w := wr) (a := ⟨g, P, none⟩) (hgrow2.block g (by omega) (by simpa using hgb))).trans hsc))
          have hM2 : Hid (MapIs w2 bm (put fi (nameK (ss.drop i)) ((xs0.length + (wireB (ss.take i)).length : Nat) : Int)) (n + i + 1)) := by
            rw [← hK.out, ← hP.out]
            exact hid_mk (MapIs.put hDt hDs HDH.out HN.out hown2)
          clear hsc hconv hown2
          go_roundw
          case rel =>
            have hno : fi (nameK (ss.drop i)) = none := by rw [← hK.out]; exact HN.out
            have hL : xs0.length + (wireB (ss.take (i + 1))).length = P + (1 + s.size) := by
              rw [wireB_succ ss i s HS.out, hP.out, List.length_append, List.length_cons, bytesI_len]; omega
            have hfi' : ∀ s' c', put fi (nameK (ss.drop i)) ((xs0.length + (wireB (ss.take i)).length : Nat) : Int) s' = some c' → 0 ≤ c' ∧ c' < 16384 := fun s' c' h' => by
              unfold put at h'
              split at h'
              · cases h'; have := hP.out; omega
              · exact hfi _ _ h'
            refine ⟨i + 1, _, by omega, ?_, hgr.trans hgrow2, hM2.out, HCM.out.next HS.out hno, hfi'⟩
            rw [hL]; exact congrArg (Value.int .i64) (by omega)
          case measure => simp [intOf]; omega
        | some t =>
          rw [hfk] at hhas
          simp only [Option.isSome_some] at hhas
          have HN := hid_mk hfk
          have ht := hfi K t hfk
          have hat0 := (hDh K).2 t hfk
          have hxd : wr.drew.ownsRow B 5 1 (.slice (some ⟨g, 0, none⟩) P c) P ((X.take P).map (Value.int .u8)) := ownsRow_take hxr (by omega)
          have HCO2 := HCO
          clear hfk hDh HCO
          go_wp2_with (first | (at_lookup; refine wpList_lookup_own_ok_int _ rfl _ _ 38 rfl 9 3 .i64 klaw Ybad.underlying38 Ybad.underlying3 (zero3 _) bm (n + i) D rfl hDo _ _ rfl hkey ?_; intro c' hat hwc))
          obtain rfl : c' = t := by
            rw [hat0] at hat
            simp at hat
            exact hat.symm
          have hPc : P ≤ c := by omega
          clear hat hat0 hconv hXl0 HXL hXc hcm hwl hDo hDs hDt HDH hhas hkey hmap hm1 hf hfi hsc HCO2
          have HB := hid_mk (or16 c' ht.1 ht.2)
          have hb1 : 0 ≤ 49152 + c' := by omega
          have hb2 : 49152 + c' ≤ 65535 := by omega
          have hdz : B ≤ wr.drew.heap.size := by show B ≤ wr.heap.size; omega
          go_region_with (first | (go_at_call 15; rw [HB.out]; refine (au16 B g P c (X.take P) (49152 + c') _ hxd hb1 hb2 (by omega) hdz).mono ?_; rintro e w2 ⟨v2, rfl, ho2, hg2, hl2⟩))
          all_goals
            go_wp2
            go_ret2
            have hc := HCM.out.stop HS.out (by rw [← hK.out]; exact HN.out)
            have hPl2 : (X.take P).length = P := by rw [List.length_take]; omega
            have hG : G2 w w2 row bm := by
              refine (G2.of_grown (bm := bm) hg).step hgr (fun g' hg' => by cases hg'; exact .inr (.inl rfl)) |>.step (show wr.grownBy w2 (some g) from ⟨hg2.os, hg2.tape, hg2.output, hg2.size, hg2.block⟩) (fun g' hg' => ?_)
              cases hg'
              rcases hloc g rfl with h | h
              · exact .inl h
              · exact .inr (.inr h)
            refine ⟨v2, by rw [← hk.out]; rfl, hG, fun h => absurd hk.out.symm h, fun _ => ?_⟩
            rw [hc]
            simp only []
            have e : xs0 ++ (wireB (ss.take i) ++ ptrB c') = X.take P ++ [(49152 + c') / 256, (49152 + c') % 256] := by
              rw [HTK.out, List.append_assoc]
              congr 2
              unfold ptrB
              congr 1
              · omega
              · congr 1
                omega
            rw [e]
            refine ⟨by rw [List.length_append, hPl2]; exact ho2, fun g' hg' => ?_, ?_⟩
            · rcases hl2 with h | h
              · rw [h] at hg'; cases hg'; exact hloc g rfl
              · right
                have h1 := h g' hg'
                have h2 : wr.heap.size ≤ g' := h1
                omega
            · refine hmi'.kept (hg2.block bm ?_ (by simpa using hgb.symm))
              show bm < wr.heap.size
              omega
      · have hie : i = ss.length := by omega
        have hsc := hcell 0 [] (by rw [hd, hie, List.drop_length]; rfl)
        clear hcell hd htk hcmp
        go_wp2
        go_ret2
        have hc := (show CmpTo f ss xs0.length ss.length fi by rw [← hie]; exact HCM.out).fin
        refine ⟨_, by rw [← hk.out]; rfl, ⟨hgr.os.trans hg.os, hgr.tape.trans hg.tape, hgr.output.trans hg.output, by omega, fun b hb h1 h2 => (hgr.block b (by omega) (by simpa using h2)).trans (hg.block b hb h1)⟩, fun h => absurd hk.out.symm h, fun _ => ?_⟩
        rw [hc]
        simp only []
        rw [← hX.out]
        refine ⟨hxr, hloc, ?_⟩
        rw [← hie]
        exact hmi
end Go.Proofs.YbulkbzsgDoor

import Derived.Test.YbulkbzsgTop
import Derived.OpenShut
import Derived.Deep.Slices
namespace Go.Proofs.Ybulkbzsg
open Go.RowKit Go.ChangeShapes Go.WideShapes
set_option linter.unusedVariables false
set_option linter.unusedSimpArgs false

section
variable {H : Type} {enc : TypeId × Value → H} {w : World} {base : Nat} {spare : Nat → Bool} {held : Bool}

theorem Yba.c5 : Yba.prog.cellsOf 5 = 1 := by kernel_rfl
theorem Yba.c23 : Yba.prog.cellsOf 23 = 1 := by kernel_rfl
theorem Yba.c4 : Yba.prog.cellsOf 4 = 1 := by kernel_rfl
theorem Yba.c32 : Yba.prog.cellsOf 32 = 1 := by kernel_rfl
theorem Yba.c38 : Yba.prog.cellsOf 38 = 1 := by kernel_rfl
theorem Yba.c40 : Yba.prog.cellsOf 40 = 2 := by kernel_rfl
theorem Yba.c34 : Yba.prog.cellsOf 34 = 10 := by kernel_rfl

theorem open_bytes {fuel : Nat} {v : Value} {x : DataW H × List MemPlace} (h : DataW.trod enc Yba.prog w base spare held fuel 38 [v] = some x) :
    ∃ bs, BytesIn w v bs ∧ ∀ b ∈ bs, 0 ≤ b ∧ b ≤ 255 := by
  rcases open_ints Yba.underlying38 Yba.underlying5 Yba.c5 h with ⟨hcs, _⟩ | ⟨a, len, cap, zs, hcs, _, hl, hm, hz, _, hcell, hwz⟩
  · simp only [List.cons.injEq, and_true] at hcs
    subst hcs
    exact ⟨[], ⟨none, 0, rfl, fun _ => rfl, fun x hx => by cases hx⟩, fun b hb => by cases hb⟩
  · simp only [List.cons.injEq, and_true] at hcs
    subst hcs
    have hlz : len ≤ zs.length := by rw [hz]; split <;> omega
    refine ⟨zs.take len, ⟨some a, cap, by rw [List.length_take, Nat.min_eq_left hlz], (fun h => by cases h), fun x hx j u hu => ?_⟩, fun b hb => bounds_u8 (hwz b (List.mem_of_mem_take hb))⟩
    cases hx
    rw [List.map_take, List.getElem?_take] at hu
    split at hu
    · rename_i hj
      rw [hcell j (by omega)]
      simp [List.getElem?_eq_getElem (show j < zs.length by omega)] at hu
      rw [← hu]
      simp [List.getD, List.getElem?_eq_getElem (show j < zs.length by omega)]
    · cases hu

theorem open_opt {fuel : Nat} {cs : List Value} {x : DataW H × List MemPlace} (h : DataW.trod enc Yba.prog w base spare held fuel 40 cs = some x) :
    ∃ (code : Int) (dv : Value) (data : List Int), cs = [.int .u16 code, dv] ∧ (0 ≤ code ∧ code ≤ 65535) ∧ BytesIn w dv data ∧ ∀ b ∈ data, 0 ≤ b ∧ b ≤ 255 := by
  obtain ⟨xs, n, _, _, hl, hlen, hf⟩ := DataW.trod_struct Yba.underlying40 h
  rw [Yba.c40] at hl
  match cs, hl with
  | [c0, c1], _ =>
    simp at hlen
    match xs, hlen with
    | [y0, y1], _ =>
      have h0 : DataW.trod enc Yba.prog w base spare held n 23 (([c0, c1].drop 0).take (Yba.prog.cellsOf 23)) = some y0 := hf 0 _ rfl
      have h1 : DataW.trod enc Yba.prog w base spare held n 38 (([c0, c1].drop 1).take (Yba.prog.cellsOf 38)) = some y1 := hf 1 _ rfl
      rw [Yba.c23] at h0
      rw [Yba.c38] at h1
      obtain ⟨code, e0, _, wf0⟩ := DataW.trod_int Yba.underlying23 (x := y0) h0
      simp only [List.drop_zero, List.take_succ_cons, List.take_zero, List.cons.injEq, and_true] at e0
      subst e0
      obtain ⟨data, hb, hr⟩ := open_bytes (x := y1) h1
      exact ⟨code, c1, data, rfl, bounds_u16 wf0, hb, hr⟩

theorem open_opts {fuel : Nat} {v : Value} {x : DataW H × List MemPlace} (h : DataW.trod enc Yba.prog w base spare held fuel 32 [v] = some x) :
    ∃ (oa : Option Addr) (oc : Nat) (os : List (Int × List Int)), v = .slice oa os.length oc ∧ OptsIn w oa os ∧ ∀ o ∈ os, (0 ≤ o.1 ∧ o.1 ≤ 65535) ∧ ∀ b ∈ o.2, 0 ≤ b ∧ b ≤ 255 := by
  rcases Deep.open_slice Yba.underlying32 h with ⟨hcs, _⟩ | ⟨a, len, cap, m, n, D, Pl, hcs, _, hl, hm, hmm, _, hel⟩
  · simp only [List.cons.injEq, and_true] at hcs
    subst hcs
    exact ⟨none, 0, [], rfl, fun j o hj => by simp at hj, fun o ho => by cases ho⟩
  · simp only [List.cons.injEq, and_true] at hcs
    subst hcs
    have hlm : len ≤ m := by rw [hmm]; split <;> omega
    rw [Yba.c40] at hel
    have hch : ∀ i, i < len → ∃ o : Int × List Int, ∃ dv, w.cell? ((a.add (i * 2)).add 0) = some (.int .u16 o.1) ∧ w.cell? ((a.add (i * 2)).add 1) = some dv ∧ BytesIn w dv o.2 ∧ (0 ≤ o.1 ∧ o.1 ≤ 65535) ∧ ∀ b ∈ o.2, 0 ≤ b ∧ b ≤ 255 := by
      intro i hi
      obtain ⟨cs', hc, ht⟩ := hel i (by omega)
      obtain ⟨code, dv, data, rfl, h1, h2, h3⟩ := open_opt ht
      obtain ⟨_, _, hcc⟩ := World.cells?_some hc
      exact ⟨(code, data), dv, hcc 0 (by omega), hcc 1 (by omega), h2, h1, h3⟩
    obtain ⟨f, hf⟩ := Deep.choose_lt hch
    refine ⟨some a, cap, (List.range len).map f, by simp, fun j o hj => ?_, fun o ho => ?_⟩
    · have hjl : j < len := by
        rcases Nat.lt_or_ge j len with hlt | hge
        · exact hlt
        · rw [List.getElem?_eq_none (by simp; omega)] at hj; cases hj
      simp [hjl] at hj
      subst hj
      obtain ⟨dv, k0, k1, k2, _⟩ := hf j hjl
      obtain ⟨b, off, spot⟩ := a
      have hspot : spot = none := by
        obtain ⟨dv', q0, _⟩ := hf 0 (by omega)
        simpa [Addr.add] using World.cell?_spot q0
      subst hspot
      refine ⟨b, off, dv, rfl, ?_, ?_, k2⟩
      · rw [Deep.add_add, Go.WideShapes.add_plain] at k0; exact k0
      · rw [Deep.add_add, Go.WideShapes.add_plain] at k1; exact k1
    · obtain ⟨i, hi, rfl⟩ := List.mem_map.1 ho
      obtain ⟨dv, _, _, _, k3, k4⟩ := hf i (List.mem_range.1 hi)
      exact ⟨k3, k4⟩

theorem open_rec {fuel : Nat} {cs : List Value} {x : DataW H × List MemPlace} (h : DataW.trod enc Yba.prog w base spare held fuel 34 cs = some x) :
    ∃ r : Rec, cs = r.cells.toList ∧ OptsIn w r.oa r.os ∧ RecRange r := by
  obtain ⟨xs, n, _, _, hl, hlen, hf⟩ := DataW.trod_struct Yba.underlying34 h
  rw [Yba.c34] at hl
  match cs, hl with
  | [v0, v1, v2, v3, v4, v5, v6, v7, v8, v9], _ =>
    simp at hlen
    match xs, hlen with
    | [y0, y1, y2, y3, y4, y5, y6, y7, y8, y9], _ =>
      have h0 : DataW.trod enc Yba.prog w base spare held n 5 (([v0, v1, v2, v3, v4, v5, v6, v7, v8, v9].drop 0).take (Yba.prog.cellsOf 5)) = some y0 := hf 0 _ rfl
      rw [Yba.c5] at h0
      have h1 : DataW.trod enc Yba.prog w base spare held n 5 (([v0, v1, v2, v3, v4, v5, v6, v7, v8, v9].drop 1).take (Yba.prog.cellsOf 5)) = some y1 := hf 1 _ rfl
      rw [Yba.c5] at h1
      have h2 : DataW.trod enc Yba.prog w base spare held n 4 (([v0, v1, v2, v3, v4, v5, v6, v7, v8, v9].drop 2).take (Yba.prog.cellsOf 4)) = some y2 := hf 2 _ rfl
      rw [Yba.c4] at h2
      have h3 : DataW.trod enc Yba.prog w base spare held n 23 (([v0, v1, v2, v3, v4, v5, v6, v7, v8, v9].drop 3).take (Yba.prog.cellsOf 23)) = some y3 := hf 3 _ rfl
      rw [Yba.c23] at h3
      have h4 : DataW.trod enc Yba.prog w base spare held n 5 (([v0, v1, v2, v3, v4, v5, v6, v7, v8, v9].drop 4).take (Yba.prog.cellsOf 5)) = some y4 := hf 4 _ rfl
      rw [Yba.c5] at h4
      have h5 : DataW.trod enc Yba.prog w base spare held n 5 (([v0, v1, v2, v3, v4, v5, v6, v7, v8, v9].drop 5).take (Yba.prog.cellsOf 5)) = some y5 := hf 5 _ rfl
      rw [Yba.c5] at h5
      have h6 : DataW.trod enc Yba.prog w base spare held n 4 (([v0, v1, v2, v3, v4, v5, v6, v7, v8, v9].drop 6).take (Yba.prog.cellsOf 4)) = some y6 := hf 6 _ rfl
      rw [Yba.c4] at h6
      have h7 : DataW.trod enc Yba.prog w base spare held n 23 (([v0, v1, v2, v3, v4, v5, v6, v7, v8, v9].drop 7).take (Yba.prog.cellsOf 23)) = some y7 := hf 7 _ rfl
      rw [Yba.c23] at h7
      have h8 : DataW.trod enc Yba.prog w base spare held n 32 (([v0, v1, v2, v3, v4, v5, v6, v7, v8, v9].drop 8).take (Yba.prog.cellsOf 32)) = some y8 := hf 8 _ rfl
      rw [Yba.c32] at h8
      have h9 : DataW.trod enc Yba.prog w base spare held n 5 (([v0, v1, v2, v3, v4, v5, v6, v7, v8, v9].drop 9).take (Yba.prog.cellsOf 5)) = some y9 := hf 9 _ rfl
      rw [Yba.c5] at h9
      obtain ⟨sec, e0, _, f0⟩ := DataW.trod_int Yba.underlying5 (x := y0) h0
      obtain ⟨lab, e1, _, f1⟩ := DataW.trod_int Yba.underlying5 (x := y1) h1
      obtain ⟨has, e2, _⟩ := DataW.trod_bool Yba.underlying4 (x := y2) h2
      obtain ⟨udp, e3, _, f3⟩ := DataW.trod_int Yba.underlying23 (x := y3) h3
      obtain ⟨ext, e4, _, f4⟩ := DataW.trod_int Yba.underlying5 (x := y4) h4
      obtain ⟨ver, e5, _, f5⟩ := DataW.trod_int Yba.underlying5 (x := y5) h5
      obtain ⟨dO, e6, _⟩ := DataW.trod_bool Yba.underlying4 (x := y6) h6
      obtain ⟨z, e7, _, f7⟩ := DataW.trod_int Yba.underlying23 (x := y7) h7
      obtain ⟨mode, e9, _, f9⟩ := DataW.trod_int Yba.underlying5 (x := y9) h9
      obtain ⟨oa, oc, os, rfl, ho, hr⟩ := open_opts (x := y8) h8
      simp only [List.drop_zero, List.drop_succ_cons, List.take_succ_cons, List.take_zero, List.cons.injEq, and_true] at e0 e1 e2 e3 e4 e5 e6 e7 e9
      subst e0 e1 e2 e3 e4 e5 e6 e7 e9
      exact ⟨⟨sec, lab, has, udp, ext, ver, dO, z, oa, oc, os, mode⟩, rfl, ho, bounds_u8 f0, bounds_u8 f1, bounds_u16 f3, bounds_u8 f4, bounds_u8 f5, bounds_u16 f7, bounds_u8 f9, hr⟩

theorem open_recs {fuel : Nat} {v : Value} {x : DataW H × List MemPlace} (h : DataW.trod enc Yba.prog w base spare held fuel 22 [v] = some x) :
    ∃ (a : Option Addr) (cap : Nat) (rs : List Rec), v = .slice a rs.length cap ∧ RecsArg w a rs ∧ ∀ r ∈ rs, RecRange r := by
  rcases Deep.open_slice Yba.underlying22 h with ⟨hcs, _⟩ | ⟨a, len, cap, m, n, D, Pl, hcs, _, hl, hm, hmm, _, hel⟩
  · simp only [List.cons.injEq, and_true] at hcs
    subst hcs
    exact ⟨none, 0, [], rfl, fun j o hj => by simp at hj, fun o ho => by cases ho⟩
  · simp only [List.cons.injEq, and_true] at hcs
    subst hcs
    have hlm : len ≤ m := by rw [hmm]; split <;> omega
    rw [Yba.c34] at hel
    have hch : ∀ i, i < len → ∃ r : Rec, (∀ j, j < 10 → w.cell? ((a.add (i * 10)).add j) = r.cells.toList[j]?) ∧ OptsIn w r.oa r.os ∧ RecRange r := by
      intro i hi
      obtain ⟨cs', hc, ht⟩ := hel i (by omega)
      obtain ⟨r, rfl, h2, h3⟩ := open_rec ht
      obtain ⟨_, _, hcc⟩ := World.cells?_some hc
      exact ⟨r, hcc, h2, h3⟩
    haveI : Inhabited Rec := ⟨⟨0, 0, false, 0, 0, 0, false, 0, none, 0, [], 0⟩⟩
    obtain ⟨f, hf⟩ := Deep.choose_lt hch
    refine ⟨some a, cap, (List.range len).map f, by simp, fun j o hj => ?_, fun o ho => ?_⟩
    · have hjl : j < len := by
        rcases Nat.lt_or_ge j len with hlt | hge
        · exact hlt
        · rw [List.getElem?_eq_none (by simp; omega)] at hj; cases hj
      simp [hjl] at hj
      subst hj
      obtain ⟨k0, k1, _⟩ := hf j hjl
      obtain ⟨b, off, spot⟩ := a
      have hspot : spot = none := by
        obtain ⟨q0, _⟩ := hf 0 (by omega)
        have q := q0 0 (by omega)
        simpa [Addr.add] using World.cell?_spot q
      subst hspot
      refine ⟨b, off, rfl, fun j' u hj' => ?_, k1⟩
      have hj10 : j' < 10 := by
        rcases Nat.lt_or_ge j' 10 with hlt | hge
        · exact hlt
        · rw [Array.getElem?_eq_none (by simpa [Rec.cells] using hge)] at hj'; cases hj'
      have := k0 j' hj10
      rw [Deep.add_add, Go.WideShapes.add_plain] at this
      rw [Nat.add_assoc, this]
      simpa using hj'
    · obtain ⟨i, hi, rfl⟩ := List.mem_map.1 ho
      exact (hf i (List.mem_range.1 hi)).2.2
end
end Go.Proofs.Ybulkbzsg

import Derived.Test.YbulkbzukNm
namespace Go.Proofs.Ybulkbzuk
open Go Go.RowKit Go.Maps Go.ChangeMaps
set_option linter.unusedVariables false
set_option linter.unusedSimpArgs false

theorem eqT {a b : ByteArray} (h : a = b) : (a.toList == b.toList) = true := by rw [h]; simp
theorem neT {a b : ByteArray} (h : a ≠ b) : (a.toList == b.toList) = false := by
  rw [beq_eq_false_iff_ne]
  intro e
  rw [ByteArray.toList_eq, ByteArray.toList_eq] at e
  exact h (WideShapes.bytes_inj e)

theorem row_form {w : World} {B : Nat} {l : List ByteArray} {v : Value} (h : Rw w B v l) : ∃ x c, v = .slice x l.length c ∧ l.length ≤ c ∧ (0 < l.length → ∃ g, x = some ⟨g, 0, none⟩) := by
  rcases h.2 with ⟨rfl, h0⟩ | ⟨g, cap, cur, rfl, _, _, h1, _⟩
  · exact ⟨none, 0, by rw [h0], by omega, fun h => by omega⟩
  · exact ⟨_, _, rfl, h1, fun _ => ⟨g, rfl⟩⟩

theorem row_cell {w : World} {B g c : Nat} {l : List ByteArray} (h : Rw w B (.slice (some ⟨g, 0, none⟩) l.length c) l) {i : Nat} (hi : i < l.length) : w.cell? ⟨g, i, none⟩ = some (.string l[i]) := by
  have := World.ownsRow.cellAt h i (by omega)
  rw [this]
  simp [hi]

set_option maxHeartbeats 1000000 in
theorem has_walk {B : Nat} {v : Value} {l : List ByteArray} (a : ByteArray) (w : World) (h : Rw w B v l) (hl : l.length ≤ 2000) :
    Calls Yba.prog 8 #[v, .string a] w fun e w' => e = .returned (.bool (decide (a ∈ l))) ∧ w' = w := by
  obtain ⟨x, c, rfl, hc, hx⟩ := row_form h
  obtain ⟨n, hn⟩ : ∃ n, Hid (n = l.length) := ⟨_, hid_mk rfl⟩
  have H := hid_mk h
  have hn' := hn.out
  rw [← hn.out] at hc hx hl
  obtain ⟨r, hr⟩ : ∃ r, Hid (r = decide (a ∈ l)) := ⟨_, hid_mk rfl⟩
  rw [← hr.out]
  clear h
  rw [← hn.out]
  clear hn'
  go_enter Yba.func8, Yba.ntmps8
  go_wp2
  go_loopw [5] (fun vi wr => ∃ i : Nat, i ≤ n ∧ vi = .int .i64 i ∧ wr = w ∧ Hid (a ∉ l.take i)) (fun vi _ => n - (RowKit.intOf vi).toNat)
  case atStart => exact ⟨0, by omega, rfl, rfl, hid_mk (by simp)⟩
  case round =>
    obtain ⟨i, hin, rfl, rfl, hno⟩ := hrel
    by_cases hi : i < n
    · obtain ⟨g, rfl⟩ := hx (by omega)
      have hil : i < l.length := by rw [← hn.out]; exact hi
      have hi' : (i : Int) < (n : Int) := by omega
      have hcell := row_cell H.out hil
      obtain ⟨b, hb⟩ : ∃ b, Hid (b = l[i]) := ⟨_, hid_mk rfl⟩
      rw [← hb.out] at hcell
      by_cases e : b = a
      · have hd := eqT e
        have hR : Hid (r = true) := hid_mk (by rw [hr.out]; simp [← e, hb.out])
        go_wp2
        go_ret
        exact ⟨by rw [hR.out]; rfl, rfl⟩
      · have hd := neT e
        have hno' : Hid (a ∉ l.take (i + 1)) := hid_mk (by
          rw [List.take_succ_eq_append_getElem hil]
          intro hm
          rcases List.mem_append.1 hm with hm | hm
          · exact hno.out hm
          · exact e (by rw [hb.out]; exact (List.mem_singleton.1 hm).symm))
        go_wp2
        exact ⟨⟨i + 1, by omega, by simp, trivial, hno'⟩, by simp [RowKit.intOf]; omega⟩
    · have hi' : ¬ (i : Int) < (n : Int) := by omega
      have hR : Hid (r = false) := hid_mk (by
        rw [hr.out]
        have : l.take i = l := List.take_of_length_le (by rw [← hn.out]; omega)
        have h2 := hno.out
        rw [this] at h2
        simpa using h2)
      go_wp2
      go_ret
      exact ⟨by rw [hR.out]; rfl, rfl⟩

set_option maxHeartbeats 1000000 in
theorem equal_walk {B : Nat} {v u : Value} {l : List ByteArray} (w : World) (h : Rw w B v l) (h' : Rw w B u l) (hl : l.length ≤ 5000) :
    Calls Yba.prog 9 #[v, u] w fun e w' => e = .returned (.bool true) ∧ ∃ n, w' = w.drewN n := by
  obtain ⟨x, c, rfl, hc, hx⟩ := row_form h
  obtain ⟨y, d, rfl, hd, hy⟩ := row_form h'
  obtain ⟨n, hn⟩ : ∃ n, Hid (n = l.length) := ⟨_, hid_mk rfl⟩
  have H := hid_mk h
  have H' := hid_mk h'
  rw [← hn.out] at hc hx hl hd hy
  clear h h'
  rw [← hn.out]
  go_enter Yba.func9, Yba.ntmps9
  go_wp2
  go_loopw [13] (fun vi wr => ∃ i m : Nat, i ≤ n ∧ vi = .int .i64 i ∧ wr = w.drewN m) (fun vi _ => n - (RowKit.intOf vi).toNat)
  case atStart => exact ⟨0, 0, by omega, rfl, rfl⟩
  case round =>
    obtain ⟨i, m, hin, rfl, hw⟩ := hrel
    rename World => wr
    have HW := hid_mk hw
    clear hw
    by_cases hi : i < n
    · obtain ⟨g, rfl⟩ := hx (by omega)
      obtain ⟨g', rfl⟩ := hy (by omega)
      have hil : i < l.length := by rw [← hn.out]; exact hi
      have hi' : (i : Int) < (n : Int) := by omega
      have hcell : wr.cell? ⟨g, i, none⟩ = some (.string l[i]) := by rw [HW.out]; exact row_cell H.out hil
      have hcell' : wr.cell? ⟨g', i, none⟩ = some (.string l[i]) := by rw [HW.out]; exact row_cell H'.out hil
      obtain ⟨b, hb⟩ : ∃ b, Hid (b = l[i]) := ⟨_, hid_mk rfl⟩
      rw [← hb.out] at hcell hcell'
      have hd := eqT (rfl : b = b)
      go_wp2
      go_quiet (fail)
      go_wp2
      exact ⟨⟨i + 1, m + nq, by omega, by simp, by rw [HW.out, World.drewN_drewN]⟩, by simp [RowKit.intOf]; omega⟩
    · have hi' : ¬ (i : Int) < (n : Int) := by omega
      go_wp2
      go_ret
      exact ⟨rfl, m, HW.out⟩
end Go.Proofs.Ybulkbzuk

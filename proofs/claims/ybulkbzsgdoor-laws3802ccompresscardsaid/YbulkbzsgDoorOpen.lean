import Derived.Test.YbulkbzsgDoorRows
import Derived.Test.YbulkbzsgDoorPlain
import Derived.WalkKit
import Derived.ProofKit
import Derived.OpenShut
import Derived.ShutString
import Derived.SliceStrings
import Derived.ChangeOld
import Derived.ChangeVars
import Derived.Below
import Derived.WalkSmall
import Derived.RowKitTokens
import Derived.LaidLaws
import Derived.Lay
import Derived.Stop.LaidErr
import Derived.Stop.ErrReads
namespace Go.Proofs.YbulkbzsgDoor
open Go.ChangeShapes Go.WideShapes Go.ChangeAt Go.RowKit
set_option linter.unusedVariables false
set_option linter.unusedSimpArgs false

theorem own : ownKnob Ybad.prog.godebug = none := by kernel_rfl
theorem laidOut : laidOutB Ybad.prog = true := by kernel_rfl
theorem Ybad.c5 : Ybad.prog.cellsOf 5 = 1 := by kernel_rfl
theorem Ybad.c9 : Ybad.prog.cellsOf 9 = 1 := by kernel_rfl
theorem Ybad.c70 : Ybad.prog.cellsOf 70 = 1 := by kernel_rfl
theorem gEmpty : Ybad.prog.globalNamed "example.com/optwire/optwire/wire.errEmpty" = some 1 := by kernel_rfl
theorem gLabel : Ybad.prog.globalNamed "example.com/optwire/optwire/wire.errLabelLen" = some 2 := by kernel_rfl
theorem gName : Ybad.prog.globalNamed "example.com/optwire/optwire/wire.errNameLen" = some 3 := by kernel_rfl
theorem tEmpty : (Ybad.prog.globals[1]?).map (·.type) = some 29 := by kernel_rfl
theorem tLabel : (Ybad.prog.globals[2]?).map (·.type) = some 29 := by kernel_rfl
theorem tName : (Ybad.prog.globals[3]?).map (·.type) = some 29 := by kernel_rfl
theorem star : "*" ++ "errors.errorString" = "*errors.errorString" := by decide
theorem row51 (u : TypeId) (h : Ybad.prog.typeName? 3 u = some "*errors.errorString") : u = 51 :=
  typeName_ptr_named (nm := "errors.errorString") (by rw [star]; kernel_rfl) (by kernel_rfl) (by decide) u (by rw [star]; exact h)

/-- What the condition gives the walks. -/
theorem of_laid {W : World} (h : laidMet Ybad.prog Rows.lawS3802CPlainRow.laid W) : ∃ a1 a2 a3 : Addr,
    W.var? Ybad.prog "example.com/optwire/optwire/wire.errEmpty" = some #[.iface 51 (.pointer (some a1))] ∧
    W.var? Ybad.prog "example.com/optwire/optwire/wire.errLabelLen" = some #[.iface 51 (.pointer (some a2))] ∧
    W.var? Ybad.prog "example.com/optwire/optwire/wire.errNameLen" = some #[.iface 51 (.pointer (some a3))] := by
  obtain ⟨a3, _, h3, _⟩ := laid_sentinel h gName tName Ybad.underlying29 row51 Ybad.underlying51 Ybad.underlying70 rfl rfl Ybad.underlying9 Ybad.c70 Ybad.c9
  obtain ⟨a2, _, h2, _⟩ := laid_sentinel h.tail gLabel tLabel Ybad.underlying29 row51 Ybad.underlying51 Ybad.underlying70 rfl rfl Ybad.underlying9 Ybad.c70 Ybad.c9
  obtain ⟨a1, _, h1, _⟩ := laid_sentinel h.tail.tail gEmpty tEmpty Ybad.underlying29 row51 Ybad.underlying51 Ybad.underlying70 rfl rfl Ybad.underlying9 Ybad.c70 Ybad.c9
  exact ⟨a1, a2, a3, h1, h2, h3⟩

abbrev names : List String := ["example.com/optwire/optwire/wire.errEmpty", "example.com/optwire/optwire/wire.errLabelLen", "example.com/optwire/optwire/wire.errNameLen"]

theorem vars_read {H : Type} (enc : TypeId × Value → H) {W : World} {x0 x1 x2 : Value} (h0 : W.var? Ybad.prog "example.com/optwire/optwire/wire.errEmpty" = some #[x0]) (h1 : W.var? Ybad.prog "example.com/optwire/optwire/wire.errLabelLen" = some #[x1]) (h2 : W.var? Ybad.prog "example.com/optwire/optwire/wire.errNameLen" = some #[x2])
    (i0 : IsIface x0) (i1 : IsIface x1) (i2 : IsIface x2) (sp : Nat → Bool) :
    DataW.TrodVars enc Ybad.prog W sp names [tok enc x0, tok enc x1, tok enc x2] [.cell 1 0, .cell 2 0, .cell 3 0] :=
  ⟨1, 29, #[x0], 1, [], [.cell 2 0, .cell 3 0], gEmpty, tEmpty, h0, trod_held Ybad.underlying29 i0 0, ⟨2, 29, #[x1], 1, [], [.cell 3 0], gLabel, tLabel, h1, trod_held Ybad.underlying29 i1 0, ⟨3, 29, #[x2], 1, [], [], gName, tName, h2, trod_held Ybad.underlying29 i2 0, rfl, rfl⟩, rfl⟩, rfl⟩

theorem var_lt {P : Program} {W : World} {n : String} {g : Nat} {cs : Array Value} (hg : P.globalNamed n = some g) (h : W.var? P n = some cs) : g < W.heap.size := by
  unfold World.var? at h
  simp only [hg, Option.bind_some] at h
  rcases Nat.lt_or_ge g W.heap.size with h' | h'
  · exact h'
  · simp [Array.getElem?_eq_none h'] at h

section
variable {H : Type} {enc : TypeId × Value → H} {w : World} {base : Nat} {spare : Nat → Bool} {held : Bool}

theorem open_bytes {fuel : Nat} {v : Value} {x : DataW H × List MemPlace} (h : DataW.trod enc Ybad.prog w base spare held fuel 22 [v] = some x) :
    ∃ (a : Option Addr) (c : Nat) (bs : List Int), v = .slice a bs.length c ∧ BytesIn w v bs ∧ ∀ b ∈ bs, 0 ≤ b ∧ b ≤ 255 := by
  rcases open_ints Ybad.underlying22 Ybad.underlying5 Ybad.c5 h with ⟨hcs, _⟩ | ⟨a, len, cap, zs, hcs, _, hl, hm, hz, _, hcell, hwz⟩
  · simp only [List.cons.injEq, and_true] at hcs
    subst hcs
    exact ⟨none, 0, [], rfl, ⟨none, 0, rfl, fun _ => rfl, fun x hx => by cases hx⟩, fun b hb => by cases hb⟩
  · simp only [List.cons.injEq, and_true] at hcs
    subst hcs
    have hlz : len ≤ zs.length := by rw [hz]; split <;> omega
    refine ⟨some a, cap, zs.take len, by rw [List.length_take, Nat.min_eq_left hlz], ⟨some a, cap, by rw [List.length_take, Nat.min_eq_left hlz], (fun h => by cases h), fun x hx j u hu => ?_⟩, fun b hb => bounds_u8 (hwz b (List.mem_of_mem_take hb))⟩
    cases hx
    rw [List.map_take, List.getElem?_take] at hu
    split at hu
    · rename_i hj
      rw [hcell j (by omega)]
      simp [List.getElem?_eq_getElem (show j < zs.length by omega)] at hu
      rw [← hu]
      simp [List.getD, List.getElem?_eq_getElem (show j < zs.length by omega)]
    · cases hu

theorem open_strs {fuel : Nat} {v : Value} {x : DataW H × List MemPlace} (h : DataW.trod enc Ybad.prog w base spare held fuel 23 [v] = some x) :
    ∃ (a : Option Addr) (c : Nat) (ss : List ByteArray), v = .slice a ss.length c ∧ StrsIn w.heap.size w a ss := by
  rcases open_strings Ybad.underlying23 Ybad.underlying9 Ybad.c9 h with ⟨hcs, _⟩ | ⟨a, len, cap, zs, hcs, _, hl, hm, hz, _, hcell, hwz⟩
  · simp only [List.cons.injEq, and_true] at hcs
    subst hcs
    exact ⟨none, 0, [], rfl, fun j s hj => by simp at hj⟩
  · simp only [List.cons.injEq, and_true] at hcs
    subst hcs
    have hlz : len ≤ zs.length := by rw [hz]; split <;> omega
    refine ⟨some a, cap, zs.take len, by rw [List.length_take, Nat.min_eq_left hlz], fun j s hj => ?_⟩
    have hjl : j < len := by
      rcases Nat.lt_or_ge j len with hlt | hge
      · exact hlt
      · rw [List.getElem?_eq_none (by simp; omega)] at hj; cases hj
    have hc := hcell j (by omega)
    rw [List.getElem?_take, if_pos hjl] at hj
    have e : zs.getD j ByteArray.empty = s := by simp [List.getD, hj]
    rw [e] at hc
    obtain ⟨b, off, spot⟩ := a
    have hspot : spot = none := by
      have h0 := hcell 0 (by omega)
      simpa [Addr.add] using World.cell?_spot h0
    subst hspot
    rw [add_plain] at hc
    exact ⟨b, off, rfl, World.block_lt_of_cell? w _ hc, hc⟩
end
end Go.Proofs.YbulkbzsgDoor

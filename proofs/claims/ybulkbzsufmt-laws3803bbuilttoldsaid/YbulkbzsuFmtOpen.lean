import Derived.Test.YbulkbzsuFmtRows
import Derived.Test.YbulkbzsuFmtClone
import Derived.WalkKit
import Derived.ProofKit
import Derived.OpenShut
import Derived.ChangeOld
import Derived.ChangeVars
import Derived.Below
import Derived.WalkSmall
import Derived.RowKitTokens
import Derived.LaidLaws
import Derived.Lay
import Derived.Stop.LaidErr
import Derived.Stop.ErrReads
import Derived.Stop.Joined
import Derived.Stop.JoinedTold
namespace Go.Proofs.YbulkbzsuFmt
open Go.ChangeShapes Go.WideShapes Go.ChangeAt Go.RowKit
open Go.Extern.Stop Go.Stop Go.Extern
set_option linter.unusedVariables false
set_option linter.unusedSimpArgs false

theorem own : ownKnob Ybaf.prog.godebug = none := by kernel_rfl
theorem laidOut : laidOutB Ybaf.prog = true := by kernel_rfl
theorem Ybaf.c5 : Ybaf.prog.cellsOf 5 = 1 := by kernel_rfl
theorem Ybaf.c9 : Ybaf.prog.cellsOf 9 = 1 := by kernel_rfl
theorem Ybaf.c63 : Ybaf.prog.cellsOf 63 = 1 := by kernel_rfl
theorem gBad : Ybaf.prog.globalNamed "example.com/lamplight/lamplight.ErrBadStamp" = some 0 := by kernel_rfl
theorem gShort : Ybaf.prog.globalNamed "example.com/lamplight/lamplight/internal/varint.ErrShort" = some 3 := by kernel_rfl
theorem gOver : Ybaf.prog.globalNamed "example.com/lamplight/lamplight/internal/varint.ErrOverflow" = some 4 := by kernel_rfl
theorem gLong : Ybaf.prog.globalNamed "example.com/lamplight/lamplight/internal/varint.ErrLong" = some 5 := by kernel_rfl
theorem tBad : (Ybaf.prog.globals[0]?).map (·.type) = some 26 := by kernel_rfl
theorem tShort : (Ybaf.prog.globals[3]?).map (·.type) = some 26 := by kernel_rfl
theorem tOver : (Ybaf.prog.globals[4]?).map (·.type) = some 26 := by kernel_rfl
theorem tLong : (Ybaf.prog.globals[5]?).map (·.type) = some 26 := by kernel_rfl
theorem star : "*" ++ "errors.errorString" = "*errors.errorString" := by decide
theorem row61 (u : TypeId) (h : Ybaf.prog.typeName? 3 u = some "*errors.errorString") : u = 61 :=
  typeName_ptr_named (nm := "errors.errorString") (by rw [star]; kernel_rfl) (by kernel_rfl) (by decide) u (by rw [star]; exact h)

abbrev names : List String := ["example.com/lamplight/lamplight.ErrBadStamp", "example.com/lamplight/lamplight/internal/varint.ErrShort", "example.com/lamplight/lamplight/internal/varint.ErrOverflow", "example.com/lamplight/lamplight/internal/varint.ErrLong"]

/-- What the condition gives the walks. -/
theorem of_laid {W : World} (h : laidMet Ybaf.prog Rows.lawS3803BRawRow.laid W) : ∃ a0 a3 a4 a5 t0 t3 t4 t5,
    W.var? Ybaf.prog "example.com/lamplight/lamplight.ErrBadStamp" = some #[.iface 61 (.pointer (some a0))] ∧
    W.var? Ybaf.prog "example.com/lamplight/lamplight/internal/varint.ErrShort" = some #[.iface 61 (.pointer (some a3))] ∧
    W.var? Ybaf.prog "example.com/lamplight/lamplight/internal/varint.ErrOverflow" = some #[.iface 61 (.pointer (some a4))] ∧
    W.var? Ybaf.prog "example.com/lamplight/lamplight/internal/varint.ErrLong" = some #[.iface 61 (.pointer (some a5))] ∧ Sent a0 a3 a4 a5 t0 t3 t4 t5 W := by
  obtain ⟨a3, t3, h3, s3, _⟩ := laid_sentinel h gShort tShort Ybaf.underlying26 row61 Ybaf.underlying61 Ybaf.underlying63 rfl rfl Ybaf.underlying9 Ybaf.c63 Ybaf.c9
  obtain ⟨a4, t4, h4, s4, _⟩ := laid_sentinel h.tail gOver tOver Ybaf.underlying26 row61 Ybaf.underlying61 Ybaf.underlying63 rfl rfl Ybaf.underlying9 Ybaf.c63 Ybaf.c9
  obtain ⟨a5, t5, h5, s5, _⟩ := laid_sentinel h.tail.tail gLong tLong Ybaf.underlying26 row61 Ybaf.underlying61 Ybaf.underlying63 rfl rfl Ybaf.underlying9 Ybaf.c63 Ybaf.c9
  obtain ⟨a0, t0, h0, s0, _⟩ := laid_sentinel h.tail.tail.tail gBad tBad Ybaf.underlying26 row61 Ybaf.underlying61 Ybaf.underlying63 rfl rfl Ybaf.underlying9 Ybaf.c63 Ybaf.c9
  exact ⟨a0, a3, a4, a5, t0, t3, t4, t5, h0, h3, h4, h5, by simpa using World.var?_cell gBad h0 0, by simpa using World.var?_cell gShort h3 0, by simpa using World.var?_cell gOver h4 0, by simpa using World.var?_cell gLong h5 0, s0, s3, s4, s5⟩

theorem vars_read {H : Type} (enc : TypeId × Value → H) {W : World} {x0 x1 x2 x3 : Value} (h0 : W.var? Ybaf.prog "example.com/lamplight/lamplight.ErrBadStamp" = some #[x0]) (h1 : W.var? Ybaf.prog "example.com/lamplight/lamplight/internal/varint.ErrShort" = some #[x1])
    (h2 : W.var? Ybaf.prog "example.com/lamplight/lamplight/internal/varint.ErrOverflow" = some #[x2]) (h3 : W.var? Ybaf.prog "example.com/lamplight/lamplight/internal/varint.ErrLong" = some #[x3])
    (i0 : IsIface x0) (i1 : IsIface x1) (i2 : IsIface x2) (i3 : IsIface x3) (sp : Nat → Bool) :
    DataW.TrodVars enc Ybaf.prog W sp names [tok enc x0, tok enc x1, tok enc x2, tok enc x3] [.cell 0 0, .cell 3 0, .cell 4 0, .cell 5 0] :=
  ⟨0, 26, #[x0], 1, [], [.cell 3 0, .cell 4 0, .cell 5 0], gBad, tBad, h0, trod_held Ybaf.underlying26 i0 0, ⟨3, 26, #[x1], 1, [], [.cell 4 0, .cell 5 0], gShort, tShort, h1, trod_held Ybaf.underlying26 i1 0, ⟨4, 26, #[x2], 1, [], [.cell 5 0], gOver, tOver, h2, trod_held Ybaf.underlying26 i2 0, ⟨5, 26, #[x3], 1, [], [], gLong, tLong, h3, trod_held Ybaf.underlying26 i3 0, rfl, rfl⟩, rfl⟩, rfl⟩, rfl⟩

theorem var_lt {P : Program} {W : World} {n : String} {g : Nat} {cs : Array Value} (hg : P.globalNamed n = some g) (h : W.var? P n = some cs) : g < W.heap.size := by
  unfold World.var? at h
  simp only [hg, Option.bind_some] at h
  rcases Nat.lt_or_ge g W.heap.size with h' | h'
  · exact h'
  · simp [Array.getElem?_eq_none h'] at h

/-- A start at a world that lays the variables, over a stop. -/
theorem witness_zip {H : Type} {enc : TypeId × Value → H} {C : Checked} {os : Os} {f : FuncId} {fn : Func} {s : OpenSpec} {conds : List PathCond} {apart : Bool} {laid : List (String × DataW Unit)} (w0 : World) (args : Array Value) (hos : w0.os = os)
    (hsh : (w0.forCall (fun _ _ => 0) ⟨#[], args, []⟩).Shaped C.prog)
    (hok : Input.okWideB C.prog (w0.forCall (fun _ _ => 0) ⟨#[], args, []⟩) f ⟨#[], args, []⟩ = true)
    (hrow : s.preRow enc C.prog fn conds apart laid (w0.forCall (fun _ _ => 0) ⟨#[], args, []⟩).memory args) (F : Stop.Interp) :
    ∃ (w : World) (tape : Tape) (i : Input), w.os = os ∧ (w.forCall tape i).Shaped C.prog ∧ i.vars = [] ∧ Input.okWide C.prog (w.forCall tape i) .any w.heap.size f i ∧
      s.preRow enc C.prog fn conds apart laid (w.forCall tape i).memory i.args ∧ ({} : Assume).holds C.prog (lone (Frame.enter C.prog f i.args .normal) [] (w.forCall tape i)) ∧ F.answers tape :=
  ⟨w0, F.over fun _ _ => 0, ⟨#[], args, []⟩, hos, hsh, (Input.okWide_of_okWideB (base := 0) hok).1, (Input.okWide_of_okWideB hok).2, hrow, by
    simp only [Assume.holds]
    exact ⟨by simp, by simp, fun _ => F.over_modest Modest.zero, by simp, by simp⟩, F.over_answers _⟩

section
variable {H : Type} {enc : TypeId × Value → H} {w : World} {base : Nat} {spare : Nat → Bool} {held : Bool}

theorem open_bytes {fuel : Nat} {v : Value} {x : DataW H × List MemPlace} (h : DataW.trod enc Ybaf.prog w base spare held fuel 33 [v] = some x) : ∃ l, BytesIn w v l := by
  rcases open_ints Ybaf.underlying33 Ybaf.underlying5 Ybaf.c5 h with ⟨hcs, _⟩ | ⟨a, len, cap, zs, hcs, _, hl, hm, hz, _, hcell, hwz⟩
  · simp only [List.cons.injEq, and_true] at hcs
    subst hcs
    exact ⟨[], none, 0, rfl, fun _ => rfl, fun x hx => by cases hx⟩
  · simp only [List.cons.injEq, and_true] at hcs
    subst hcs
    have hlz : len ≤ zs.length := by rw [hz]; split <;> omega
    refine ⟨(zs.take len).map fun z => UInt8.ofNat z.toNat, some a, cap, by rw [List.length_map, List.length_take, Nat.min_eq_left hlz], (fun h => by cases h), fun x hx j u hu => ?_⟩
    cases hx
    simp only [Lib.byteCells, List.map_map, List.getElem?_map, List.getElem?_take] at hu
    split at hu
    · rename_i hj
      have hj2 : j < zs.length := by omega
      rw [hcell j (by omega)]
      have hb := bounds_u8 (hwz _ (List.getElem_mem hj2))
      simp only [List.getElem?_eq_getElem hj2, Option.map_some, Function.comp, Option.some.injEq] at hu
      rw [← hu]
      simp only [List.getD, List.getElem?_eq_getElem hj2, Option.getD_some, Option.some.injEq]
      congr 1
      simp
      omega
    · simp at hu
end
end Go.Proofs.YbulkbzsuFmt

import Derived.Test.YbulkbzsuFmtRows
import Derived.Test.YbulkbzsuFmtName
import Derived.WalkKit
import Derived.ProofKit
import Derived.OpenShut
import Derived.ChangeOld
import Derived.ChangeVars
import Derived.Below
import Derived.WalkSmall
import Derived.LaidLaws
import Derived.Lay
import Derived.LaidMore
import Derived.Stop.LaidErr
import Derived.Stop.ErrReads
import Derived.Stop.Joined
import Derived.Stop.JoinedTold
namespace Go.Proofs.YbulkbzsuFmt
open Go.ChangeShapes Go.WideShapes Go.ChangeAt Go.RowKit
open Go.Extern.Stop Go.Stop Go.Extern
set_option linter.unusedVariables false
set_option linter.unusedSimpArgs false

theorem ownA : ownKnob Ybaf.prog.godebug = none := by kernel_rfl
theorem laidOutA : laidOutB Ybaf.prog = true := by kernel_rfl
theorem Ybaf.ca9 : Ybaf.prog.cellsOf 9 = 1 := by kernel_rfl
theorem Ybaf.ca63 : Ybaf.prog.cellsOf 63 = 1 := by kernel_rfl
theorem gRange : Ybaf.prog.globalNamed "strconv.ErrRange" = some 7 := by kernel_rfl
theorem gSyntax : Ybaf.prog.globalNamed "strconv.ErrSyntax" = some 6 := by kernel_rfl
theorem tRange : (Ybaf.prog.globals[7]?).map (·.type) = some 26 := by kernel_rfl
theorem tSyntax : (Ybaf.prog.globals[6]?).map (·.type) = some 26 := by kernel_rfl
theorem starA : "*" ++ "errors.errorString" = "*errors.errorString" := by decide
theorem rowA61 (u : TypeId) (h : Ybaf.prog.typeName? 3 u = some "*errors.errorString") : u = 61 :=
  typeName_ptr_named (nm := "errors.errorString") (by rw [starA]; kernel_rfl) (by kernel_rfl) (by decide) u (by rw [starA]; exact h)

/-- What the condition gives the walks. -/
theorem of_laidA {W : World} (h : laidMet Ybaf.prog Rows.lawS3803AMatchesModelRow.laid W) : ∃ v6 v7, Errs W v6 v7 := by
  obtain ⟨a7, t7, h7, s7, _⟩ := laid_sentinel h.tail.tail.tail gRange tRange Ybaf.underlying26 rowA61 Ybaf.underlying61 Ybaf.underlying63 rfl rfl Ybaf.underlying9 Ybaf.ca63 Ybaf.ca9
  obtain ⟨a6, t6, h6, s6, _⟩ := laid_sentinel h.tail.tail.tail.tail gSyntax tSyntax Ybaf.underlying26 rowA61 Ybaf.underlying61 Ybaf.underlying63 rfl rfl Ybaf.underlying9 Ybaf.ca63 Ybaf.ca9
  exact ⟨_, _, by simpa using World.var?_cell gSyntax h6 0, by simpa using World.var?_cell gRange h7 0, .inr ⟨_, _, rfl⟩, .inr ⟨_, _, rfl⟩⟩

/-- A start at a world that lays the variables, over a stop. -/
theorem witness_zipA {H : Type} {enc : TypeId × Value → H} {C : Checked} {os : Os} {f : FuncId} {fn : Func} {s : OpenSpec} {conds : List PathCond} {apart : Bool} {laid : List (String × DataW Unit)} (w0 : World) (args : Array Value) (hos : w0.os = os)
    (hsh : (w0.forCall (fun _ _ => 0) ⟨#[], args, []⟩).Shaped C.prog)
    (hok : Input.okWideB C.prog (w0.forCall (fun _ _ => 0) ⟨#[], args, []⟩) f ⟨#[], args, []⟩ = true)
    (hrow : s.preRow enc C.prog fn conds apart laid (w0.forCall (fun _ _ => 0) ⟨#[], args, []⟩).memory args) (F : Stop.Interp) :
    ∃ (w : World) (tape : Tape) (i : Input), w.os = os ∧ (w.forCall tape i).Shaped C.prog ∧ i.vars = [] ∧ Input.okWide C.prog (w.forCall tape i) .any w.heap.size f i ∧
      s.preRow enc C.prog fn conds apart laid (w.forCall tape i).memory i.args ∧ ({} : Assume).holds C.prog (lone (Frame.enter C.prog f i.args .normal) [] (w.forCall tape i)) ∧ F.answers tape :=
  ⟨w0, F.over fun _ _ => 0, ⟨#[], args, []⟩, hos, hsh, (Input.okWide_of_okWideB (base := 0) hok).1, (Input.okWide_of_okWideB hok).2, hrow, by
    simp only [Assume.holds]
    exact ⟨by simp, by simp, fun _ => F.over_modest Modest.zero, by simp, by simp⟩, F.over_answers _⟩

end Go.Proofs.YbulkbzsuFmt

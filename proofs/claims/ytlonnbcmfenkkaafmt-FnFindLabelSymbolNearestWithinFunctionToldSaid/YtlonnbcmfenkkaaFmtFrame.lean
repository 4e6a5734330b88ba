/-
  What the rows of this seat ask of a witness: the closed facts of the program and one start that fits, the listed variables laid. No condition.
-/
import Derived.Test.YtlonnbcmfenkkaaFmtTie
import Derived.Test.YtlonnbcmfenkkaaFmtCards
import Derived.ProofKit
import Derived.OpenShut
import Derived.ShutString
import Derived.ChangeOld
import Derived.OpenVars
import Derived.Stop.JoinedAt
import Derived.Stop.JoinedTold
import Derived.Lay
import Derived.LaidOnce
import Derived.MakeChecks
import Derived.SevenTiedAt
namespace Go.Proofs.YtlonnbcmfenkkaaFmt
open Go.ChangeShapes Go.WideShapes Go.ChangeAt Go.RowKit
open Go.Extern.Stop Go.Stop Go.Extern

theorem own : ownKnob Tryf.prog.godebug = none := by kernel_rfl
theorem laidOut : laidOutB Tryf.prog = true := by kernel_rfl
theorem laidOutP : laidOutB Tryf.pinned.checked.prog = true := by kernel_rfl
theorem stops : Tryf.pinned.checked.prog.stops = ["fmt.Sprintf"] := by kernel_rfl
theorem stopKnobs : Tryf.pinned.checked.prog.stopKnobs = [] := by kernel_rfl
theorem quiet (os : Os) : Stop.quiet Tryf.pinned.checked.prog os := by
  intro k hk
  rw [stopKnobs] at hk
  cases hk
def openNames : List String := ["github.com/evanw/esbuild/internal/js_ast.idStartES5OrESNext", "github.com/evanw/esbuild/internal/js_ast.idContinueES5OrESNext", "github.com/evanw/esbuild/internal/ast.InvalidRef"]
theorem rowed : varsRowed Tryf.prog openNames = true := by kernel_rfl
def laids : List (String × DataW Unit) := [("unicode/utf8.first", Rows.laid_unicode_utf8_first), ("unicode/utf8.acceptRanges", Rows.laid_unicode_utf8_acceptRanges), ("github.com/evanw/esbuild/internal/ast.InvalidRef", Rows.laid_github_com_evanw_esbuild_internal_ast_InvalidRef)]
theorem laid_met (os : Os) (args : Array Value) : laidMet Tryf.prog laids ((World.laidAll Tryf.prog os laids).forCall (fun _ _ => 0) ⟨#[], args, []⟩).memory :=
  laidMet_laidAll _ (by kernel_rfl) (by kernel_rfl)
theorem laidH_met (os : Os) (args : Array Value) : laidMetH Tryf.prog laids ((World.laidAll Tryf.prog os laids).forCall (fun _ _ => 0) ⟨#[], args, []⟩).memory := by
  rw [MakeChecks.laidMetH_plain _ _ _ (by kernel_rfl)]
  exact laid_met os args

set_option maxRecDepth 100000 in
/-- One start that fits, the listed variables laid, at a list of whole arguments. -/
theorem witness_laid {H : Type} {enc : TypeId × Value → H} {os : Os} {f : FuncId} {fn : Func} {s : OpenSpec} {conds : List PathCond} {apart : Bool} (args : Array Value)
    (hv : ((World.laidAll Tryf.prog os laids).forCall (fun _ _ => 0) ⟨#[], args, []⟩).variablesZipB Tryf.prog = true)
    (hr : (((World.laidAll Tryf.prog os laids).forCall (fun _ _ => 0) ⟨#[], args, []⟩).heap.toList.drop Tryf.prog.globals.size).take ((begin Tryf.prog (fun _ _ => 0) default).world.heap.size - Tryf.prog.globals.size) =
      (begin Tryf.prog (fun _ _ => 0) default).world.heap.toList.drop Tryf.prog.globals.size)
    (hok : Input.okWideB Tryf.prog ((World.laidAll Tryf.prog os laids).forCall (fun _ _ => 0) ⟨#[], args, []⟩) f ⟨#[], args, []⟩ = true)
    (hrow : s.preRow enc Tryf.prog fn conds apart laids ((World.laidAll Tryf.prog os laids).forCall (fun _ _ => 0) ⟨#[], args, []⟩).memory args) (F : Stop.Interp) :
    ∃ (w : World) (tape : Tape) (i : Input), w.os = os ∧ (w.forCall tape i).Shaped Tryf.prog ∧ i.vars = [] ∧ Input.okWide Tryf.prog (w.forCall tape i) .any w.heap.size f i ∧
      s.preRow enc Tryf.prog fn conds apart laids (w.forCall tape i).memory i.args ∧ ({} : Assume).holds Tryf.prog (lone (Frame.enter Tryf.prog f i.args .normal) [] (w.forCall tape i)) ∧ F.answers tape :=
  ⟨World.laidAll Tryf.prog os laids, F.over fun _ _ => 0, ⟨#[], args, []⟩, World.laidAll_os _ _ _, World.shaped_of_ZipB hv hr, (Input.okWide_of_okWideB (base := 0) hok).1, (Input.okWide_of_okWideB hok).2, hrow, by
    simp only [Assume.holds]
    exact ⟨by simp, by simp, fun _ => F.over_modest Modest.zero, by simp, by simp⟩, F.over_answers _⟩
end Go.Proofs.YtlonnbcmfenkkaaFmt

/-
  NARROWER THAN 'FOR EVERY INPUT', by the rows' own cells (each row's printed sentence says how): FnWarnImportNamespaceCallWarnsOncePerRefAndKind: laid · FnWarnImportNamespaceCallIsSilentOffNamespaces: laid.
  DERIVED. THE GIVEN ROWS OF THIS SEAT. 2 by the template 'for every input the law returns true; each argument reads behind the call as it read before'; 0 by the template 'total and deterministic' (their statements: YtdgijbkomekopaaFmtTotals.lean).
  GIVEN WITH THE SEED: the statements are not yours to turn. If you find one false, say at which input.
  Laid BY PROGRAM, IN A SANDBOX (cutbox-rows.mjs): the forced cells as the released guide's own fill.sh prints them over the translation 577d14bd4ed0dd98… (all of the seat's roots in one cut). By AI agents, Wed Nov 11 2026. No macro, syntax, notation, axiom, sorry.
-/
import Derived.Test.YtdgijbkomekopaaFmtChecked
import GoSem.PinnedTables
import GoSem.Claim
import GoSem.ClaimJoined
import GoSem.ClaimMapViews
import Derived.JoinedTies
import Derived.KernelRfl
namespace Go.Proofs.YtdgijbkomekopaaFmt
/- THE CELL 'sum', in the pinned program and in every row, IS THE sha256 OF THE DUMP (.gsa) THAT YtdgijbkomekopaaFmtProg.lean LOADS. Nothing in Lean hashes anything: it is a label: what it is worth is what the hold of that sum in a sandbox is worth. -/
noncomputable def Tryf.pinned : Pinned := { name := "ytdgijbkomekopaafmt", sum := "577d14bd4ed0dd9824be0954d2126526a85688c23ec9d2b9a5be7fe9ef869f00", checked := Tryf.checked }
namespace Rows
def none {H : Type} : Left H := { results := [], args := [] }

/- WHAT THE LISTED PACKAGE-LEVEL VARIABLES READ AS WHEN THE CALL BEGINS. Each datum BY PROGRAM (the guide's laid-datum.mjs) off the statement by which the dump's own 'gosem.cut.vars' lays the variable. In a bare row this is a premise. The card (YtdgijbkomekopaaFmtCards.lean) ties it to the program's text. -/
/-- One of Go's own tables, pinned by name: the form's constant. -/
def laid_unicode_utf8_first : DataW Unit := Go.Pinned.utf8First
def laid_unicode_utf8_acceptRanges {H : Type} : DataW H := .agg [.agg [.lit (.int .u8 128), .lit (.int .u8 191)], .agg [.lit (.int .u8 160), .lit (.int .u8 191)], .agg [.lit (.int .u8 128), .lit (.int .u8 159)], .agg [.lit (.int .u8 144), .lit (.int .u8 191)], .agg [.lit (.int .u8 128), .lit (.int .u8 143)], .agg [.lit (.int .u8 0), .lit (.int .u8 0)], .agg [.lit (.int .u8 0), .lit (.int .u8 0)], .agg [.lit (.int .u8 0), .lit (.int .u8 0)], .agg [.lit (.int .u8 0), .lit (.int .u8 0)], .agg [.lit (.int .u8 0), .lit (.int .u8 0)], .agg [.lit (.int .u8 0), .lit (.int .u8 0)], .agg [.lit (.int .u8 0), .lit (.int .u8 0)], .agg [.lit (.int .u8 0), .lit (.int .u8 0)], .agg [.lit (.int .u8 0), .lit (.int .u8 0)], .agg [.lit (.int .u8 0), .lit (.int .u8 0)], .agg [.lit (.int .u8 0), .lit (.int .u8 0)]]

/-- 'n011_136.FnWarnImportNamespaceCallWarnsOncePerRefAndKind': WHATEVER THE INPUT: true; the input reads as it did. -/
def fnWarnImportNamespaceCallWarnsOncePerRefAndKindSpec : ChangeSpec := { name := "fnWarnImportNamespaceCallWarnsOncePerRefAndKind", vars := ["github.com/evanw/esbuild/internal/js_ast.idStartES5OrESNext", "github.com/evanw/esbuild/internal/js_ast.idContinueES5OrESNext"], fn := fun _ => fun
  | [d1, d2, d3, d4, g1, g2] => { results := [.lit (.bool true)], args := [d1, d2, d3, d4], vars := [g1, g2] }
  | _ => none }
def fnWarnImportNamespaceCallWarnsOncePerRefAndKindRow : OpenClaim := { program := "ytdgijbkomekopaafmt", sum := "577d14bd4ed0dd9824be0954d2126526a85688c23ec9d2b9a5be7fe9ef869f00", func := "github.com/evanw/esbuild/n011_136.FnWarnImportNamespaceCallWarnsOncePerRefAndKind", spec := "fnWarnImportNamespaceCallWarnsOncePerRefAndKind", stops := ["fmt.Sprintf"], inPlace := ["fmt.Sprintf"], unfollowed := true, recurses := true, named := ["unicode/utf8.first", "unicode/utf8.acceptRanges", "github.com/evanw/esbuild/internal/js_ast.idStartES5OrESNext", "github.com/evanw/esbuild/internal/js_ast.idContinueES5OrESNext"], plainKeys := false, apart := false, laid := [("unicode/utf8.first", laid_unicode_utf8_first), ("unicode/utf8.acceptRanges", laid_unicode_utf8_acceptRanges)] }
/-- NO THEOREM (fmt's text is open here; it may be false): for the released tool's asking of the row's closed facts alone. THE STATEMENT IS 'FnWarnImportNamespaceCallWarnsOncePerRefAndKindToldSaid' (YtdgijbkomekopaaFmtCards.lean). -/
def FnWarnImportNamespaceCallWarnsOncePerRefAndKindFormAsk : Prop := fnWarnImportNamespaceCallWarnsOncePerRefAndKindRow.holds Tryf.pinned (OpenSpec.ofChange fnWarnImportNamespaceCallWarnsOncePerRefAndKindSpec)

/-- ITS FALSE NEIGHBOUR: 'it returns false'. Refute it at one input. -/
def fnWarnImportNamespaceCallWarnsOncePerRefAndKindWrong : ChangeSpec := { name := "fnWarnImportNamespaceCallWarnsOncePerRefAndKind", vars := ["github.com/evanw/esbuild/internal/js_ast.idStartES5OrESNext", "github.com/evanw/esbuild/internal/js_ast.idContinueES5OrESNext"], fn := fun _ => fun
  | [d1, d2, d3, d4, g1, g2] => { results := [.lit (.bool false)], args := [d1, d2, d3, d4], vars := [g1, g2] }
  | _ => none }
def FnWarnImportNamespaceCallWarnsOncePerRefAndKindWrongFormAsk : Prop := fnWarnImportNamespaceCallWarnsOncePerRefAndKindRow.holds Tryf.pinned (OpenSpec.ofChange fnWarnImportNamespaceCallWarnsOncePerRefAndKindWrong)

/-- 'n011_136.FnWarnImportNamespaceCallIsSilentOffNamespaces': WHATEVER THE INPUT: true; the input reads as it did. -/
def fnWarnImportNamespaceCallIsSilentOffNamespacesSpec : ChangeSpec := { name := "fnWarnImportNamespaceCallIsSilentOffNamespaces", vars := ["github.com/evanw/esbuild/internal/js_ast.idStartES5OrESNext", "github.com/evanw/esbuild/internal/js_ast.idContinueES5OrESNext"], fn := fun _ => fun
  | [d1, d2, d3, d4, d5, d6, d7, g1, g2] => { results := [.lit (.bool true)], args := [d1, d2, d3, d4, d5, d6, d7], vars := [g1, g2] }
  | _ => none }
def fnWarnImportNamespaceCallIsSilentOffNamespacesRow : OpenClaim := { program := "ytdgijbkomekopaafmt", sum := "577d14bd4ed0dd9824be0954d2126526a85688c23ec9d2b9a5be7fe9ef869f00", func := "github.com/evanw/esbuild/n011_136.FnWarnImportNamespaceCallIsSilentOffNamespaces", spec := "fnWarnImportNamespaceCallIsSilentOffNamespaces", stops := ["fmt.Sprintf"], inPlace := ["fmt.Sprintf"], unfollowed := true, recurses := true, named := ["unicode/utf8.first", "unicode/utf8.acceptRanges", "github.com/evanw/esbuild/internal/js_ast.idStartES5OrESNext", "github.com/evanw/esbuild/internal/js_ast.idContinueES5OrESNext"], plainKeys := false, apart := false, laid := [("unicode/utf8.first", laid_unicode_utf8_first), ("unicode/utf8.acceptRanges", laid_unicode_utf8_acceptRanges)] }
/-- NO THEOREM (fmt's text is open here; it may be false): for the released tool's asking of the row's closed facts alone. THE STATEMENT IS 'FnWarnImportNamespaceCallIsSilentOffNamespacesToldSaid' (YtdgijbkomekopaaFmtCards.lean). -/
def FnWarnImportNamespaceCallIsSilentOffNamespacesFormAsk : Prop := fnWarnImportNamespaceCallIsSilentOffNamespacesRow.holds Tryf.pinned (OpenSpec.ofChange fnWarnImportNamespaceCallIsSilentOffNamespacesSpec)

/-- ITS FALSE NEIGHBOUR: 'it returns false'. Refute it at one input. -/
def fnWarnImportNamespaceCallIsSilentOffNamespacesWrong : ChangeSpec := { name := "fnWarnImportNamespaceCallIsSilentOffNamespaces", vars := ["github.com/evanw/esbuild/internal/js_ast.idStartES5OrESNext", "github.com/evanw/esbuild/internal/js_ast.idContinueES5OrESNext"], fn := fun _ => fun
  | [d1, d2, d3, d4, d5, d6, d7, g1, g2] => { results := [.lit (.bool false)], args := [d1, d2, d3, d4, d5, d6, d7], vars := [g1, g2] }
  | _ => none }
def FnWarnImportNamespaceCallIsSilentOffNamespacesWrongFormAsk : Prop := fnWarnImportNamespaceCallIsSilentOffNamespacesRow.holds Tryf.pinned (OpenSpec.ofChange fnWarnImportNamespaceCallIsSilentOffNamespacesWrong)

end Rows
end Go.Proofs.YtdgijbkomekopaaFmt

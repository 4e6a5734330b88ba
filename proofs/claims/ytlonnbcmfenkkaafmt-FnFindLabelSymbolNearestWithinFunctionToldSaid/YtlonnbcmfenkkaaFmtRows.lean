/-
  NARROWER THAN 'FOR EVERY INPUT', by the rows' own cells (each row's printed sentence says how): FnFindLabelSymbolRepeatsStably: laid · FnFindSymbolSecondLookupAgrees: laid · FnFindLabelSymbolNearestWithinFunction: laid.
  DERIVED. THE GIVEN ROWS OF THIS SEAT. 3 by the template 'for every input the law returns true; each argument reads behind the call as it read before'; 0 by the template 'total and deterministic' (their statements: YtlonnbcmfenkkaaFmtTotals.lean).
  GIVEN WITH THE SEED: the statements are not yours to turn. If you find one false, say at which input.
  Laid BY PROGRAM, IN A SANDBOX (cutbox-rows.mjs): the forced cells as the released guide's own fill.sh prints them over the translation 02a7381d1a634d40… (all of the seat's roots in one cut). By AI agents, Wed Nov 11 2026. No macro, syntax, notation, axiom, sorry.
-/
import Derived.Test.YtlonnbcmfenkkaaFmtChecked
import GoSem.PinnedTables
import GoSem.Claim
import GoSem.ClaimJoined
import GoSem.ClaimMapViews
import Derived.JoinedTies
import Derived.KernelRfl
namespace Go.Proofs.YtlonnbcmfenkkaaFmt
/- THE CELL 'sum', in the pinned program and in every row, IS THE sha256 OF THE DUMP (.gsa) THAT YtlonnbcmfenkkaaFmtProg.lean LOADS. Nothing in Lean hashes anything: it is a label: what it is worth is what the hold of that sum in a sandbox is worth. -/
noncomputable def Tryf.pinned : Pinned := { name := "ytlonnbcmfenkkaafmt", sum := "02a7381d1a634d4011b011771a9289cfd402707f5c77524d0583a13a04221125", checked := Tryf.checked }
namespace Rows
def none {H : Type} : Left H := { results := [], args := [] }

/- WHAT THE LISTED PACKAGE-LEVEL VARIABLES READ AS WHEN THE CALL BEGINS. Each datum BY PROGRAM (the guide's laid-datum.mjs) off the statement by which the dump's own 'gosem.cut.vars' lays the variable. In a bare row this is a premise. The card (YtlonnbcmfenkkaaFmtCards.lean) ties it to the program's text. -/
/-- One of Go's own tables, pinned by name: the form's constant. -/
def laid_unicode_utf8_first : DataW Unit := Go.Pinned.utf8First
def laid_unicode_utf8_acceptRanges {H : Type} : DataW H := .agg [.agg [.lit (.int .u8 128), .lit (.int .u8 191)], .agg [.lit (.int .u8 160), .lit (.int .u8 191)], .agg [.lit (.int .u8 128), .lit (.int .u8 159)], .agg [.lit (.int .u8 144), .lit (.int .u8 191)], .agg [.lit (.int .u8 128), .lit (.int .u8 143)], .agg [.lit (.int .u8 0), .lit (.int .u8 0)], .agg [.lit (.int .u8 0), .lit (.int .u8 0)], .agg [.lit (.int .u8 0), .lit (.int .u8 0)], .agg [.lit (.int .u8 0), .lit (.int .u8 0)], .agg [.lit (.int .u8 0), .lit (.int .u8 0)], .agg [.lit (.int .u8 0), .lit (.int .u8 0)], .agg [.lit (.int .u8 0), .lit (.int .u8 0)], .agg [.lit (.int .u8 0), .lit (.int .u8 0)], .agg [.lit (.int .u8 0), .lit (.int .u8 0)], .agg [.lit (.int .u8 0), .lit (.int .u8 0)], .agg [.lit (.int .u8 0), .lit (.int .u8 0)]]
def laid_github_com_evanw_esbuild_internal_ast_InvalidRef {H : Type} : DataW H := .agg [.lit (.int .u32 4294967295), .lit (.int .u32 4294967295)]

/-- 'n011_119.FnFindLabelSymbolRepeatsStably': WHATEVER THE INPUT: true; the input reads as it did. -/
def fnFindLabelSymbolRepeatsStablySpec : ChangeSpec := { name := "fnFindLabelSymbolRepeatsStably", vars := ["github.com/evanw/esbuild/internal/js_ast.idStartES5OrESNext", "github.com/evanw/esbuild/internal/js_ast.idContinueES5OrESNext", "github.com/evanw/esbuild/internal/ast.InvalidRef"], fn := fun _ => fun
  | [d1, d2, d3, g1, g2, g3] => { results := [.lit (.bool true)], args := [d1, d2, d3], vars := [g1, g2, g3] }
  | _ => none }
def fnFindLabelSymbolRepeatsStablyRow : OpenClaim := { program := "ytlonnbcmfenkkaafmt", sum := "02a7381d1a634d4011b011771a9289cfd402707f5c77524d0583a13a04221125", func := "github.com/evanw/esbuild/n011_119.FnFindLabelSymbolRepeatsStably", spec := "fnFindLabelSymbolRepeatsStably", stops := ["fmt.Sprintf"], inPlace := ["fmt.Sprintf"], unfollowed := true, recurses := true, named := ["unicode/utf8.first", "unicode/utf8.acceptRanges", "github.com/evanw/esbuild/internal/js_ast.idStartES5OrESNext", "github.com/evanw/esbuild/internal/js_ast.idContinueES5OrESNext", "github.com/evanw/esbuild/internal/ast.InvalidRef"], plainKeys := false, apart := false, laid := [("unicode/utf8.first", laid_unicode_utf8_first), ("unicode/utf8.acceptRanges", laid_unicode_utf8_acceptRanges), ("github.com/evanw/esbuild/internal/ast.InvalidRef", laid_github_com_evanw_esbuild_internal_ast_InvalidRef)] }
/-- NO THEOREM (fmt's text is open here; it may be false): for the released tool's asking of the row's closed facts alone. THE STATEMENT IS 'FnFindLabelSymbolRepeatsStablyToldSaid' (YtlonnbcmfenkkaaFmtCards.lean). -/
def FnFindLabelSymbolRepeatsStablyFormAsk : Prop := fnFindLabelSymbolRepeatsStablyRow.holds Tryf.pinned (OpenSpec.ofChange fnFindLabelSymbolRepeatsStablySpec)

/-- ITS FALSE NEIGHBOUR: 'it returns false'. Refute it at one input. -/
def fnFindLabelSymbolRepeatsStablyWrong : ChangeSpec := { name := "fnFindLabelSymbolRepeatsStably", vars := ["github.com/evanw/esbuild/internal/js_ast.idStartES5OrESNext", "github.com/evanw/esbuild/internal/js_ast.idContinueES5OrESNext", "github.com/evanw/esbuild/internal/ast.InvalidRef"], fn := fun _ => fun
  | [d1, d2, d3, g1, g2, g3] => { results := [.lit (.bool false)], args := [d1, d2, d3], vars := [g1, g2, g3] }
  | _ => none }
def FnFindLabelSymbolRepeatsStablyWrongFormAsk : Prop := fnFindLabelSymbolRepeatsStablyRow.holds Tryf.pinned (OpenSpec.ofChange fnFindLabelSymbolRepeatsStablyWrong)

/-- 'n011_119.FnFindSymbolSecondLookupAgrees': WHATEVER THE INPUT: true; the input reads as it did. -/
def fnFindSymbolSecondLookupAgreesSpec : ChangeSpec := { name := "fnFindSymbolSecondLookupAgrees", vars := ["github.com/evanw/esbuild/internal/js_ast.idStartES5OrESNext", "github.com/evanw/esbuild/internal/js_ast.idContinueES5OrESNext", "github.com/evanw/esbuild/internal/ast.InvalidRef"], fn := fun _ => fun
  | [d1, d2, d3, g1, g2, g3] => { results := [.lit (.bool true)], args := [d1, d2, d3], vars := [g1, g2, g3] }
  | _ => none }
def fnFindSymbolSecondLookupAgreesRow : OpenClaim := { program := "ytlonnbcmfenkkaafmt", sum := "02a7381d1a634d4011b011771a9289cfd402707f5c77524d0583a13a04221125", func := "github.com/evanw/esbuild/n011_119.FnFindSymbolSecondLookupAgrees", spec := "fnFindSymbolSecondLookupAgrees", stops := ["fmt.Sprintf"], inPlace := ["fmt.Sprintf"], unfollowed := true, recurses := true, named := ["unicode/utf8.first", "unicode/utf8.acceptRanges", "github.com/evanw/esbuild/internal/js_ast.idStartES5OrESNext", "github.com/evanw/esbuild/internal/js_ast.idContinueES5OrESNext", "github.com/evanw/esbuild/internal/ast.InvalidRef"], plainKeys := false, apart := false, laid := [("unicode/utf8.first", laid_unicode_utf8_first), ("unicode/utf8.acceptRanges", laid_unicode_utf8_acceptRanges), ("github.com/evanw/esbuild/internal/ast.InvalidRef", laid_github_com_evanw_esbuild_internal_ast_InvalidRef)] }
/-- NO THEOREM (fmt's text is open here; it may be false): for the released tool's asking of the row's closed facts alone. THE STATEMENT IS 'FnFindSymbolSecondLookupAgreesToldSaid' (YtlonnbcmfenkkaaFmtCards.lean). -/
def FnFindSymbolSecondLookupAgreesFormAsk : Prop := fnFindSymbolSecondLookupAgreesRow.holds Tryf.pinned (OpenSpec.ofChange fnFindSymbolSecondLookupAgreesSpec)

/-- ITS FALSE NEIGHBOUR: 'it returns false'. Refute it at one input. -/
def fnFindSymbolSecondLookupAgreesWrong : ChangeSpec := { name := "fnFindSymbolSecondLookupAgrees", vars := ["github.com/evanw/esbuild/internal/js_ast.idStartES5OrESNext", "github.com/evanw/esbuild/internal/js_ast.idContinueES5OrESNext", "github.com/evanw/esbuild/internal/ast.InvalidRef"], fn := fun _ => fun
  | [d1, d2, d3, g1, g2, g3] => { results := [.lit (.bool false)], args := [d1, d2, d3], vars := [g1, g2, g3] }
  | _ => none }
def FnFindSymbolSecondLookupAgreesWrongFormAsk : Prop := fnFindSymbolSecondLookupAgreesRow.holds Tryf.pinned (OpenSpec.ofChange fnFindSymbolSecondLookupAgreesWrong)

/-- 'n011_119.FnFindLabelSymbolNearestWithinFunction': WHATEVER THE INPUT: true; the input reads as it did. -/
def fnFindLabelSymbolNearestWithinFunctionSpec : ChangeSpec := { name := "fnFindLabelSymbolNearestWithinFunction", vars := ["github.com/evanw/esbuild/internal/js_ast.idStartES5OrESNext", "github.com/evanw/esbuild/internal/js_ast.idContinueES5OrESNext", "github.com/evanw/esbuild/internal/ast.InvalidRef"], fn := fun _ => fun
  | [d1, d2, g1, g2, g3] => { results := [.lit (.bool true)], args := [d1, d2], vars := [g1, g2, g3] }
  | _ => none }
def fnFindLabelSymbolNearestWithinFunctionRow : OpenClaim := { program := "ytlonnbcmfenkkaafmt", sum := "02a7381d1a634d4011b011771a9289cfd402707f5c77524d0583a13a04221125", func := "github.com/evanw/esbuild/n011_119.FnFindLabelSymbolNearestWithinFunction", spec := "fnFindLabelSymbolNearestWithinFunction", stops := ["fmt.Sprintf"], inPlace := ["fmt.Sprintf"], unfollowed := true, recurses := true, named := ["unicode/utf8.first", "unicode/utf8.acceptRanges", "github.com/evanw/esbuild/internal/js_ast.idStartES5OrESNext", "github.com/evanw/esbuild/internal/js_ast.idContinueES5OrESNext", "github.com/evanw/esbuild/internal/ast.InvalidRef"], plainKeys := false, apart := false, laid := [("unicode/utf8.first", laid_unicode_utf8_first), ("unicode/utf8.acceptRanges", laid_unicode_utf8_acceptRanges), ("github.com/evanw/esbuild/internal/ast.InvalidRef", laid_github_com_evanw_esbuild_internal_ast_InvalidRef)] }
/-- NO THEOREM (fmt's text is open here; it may be false): for the released tool's asking of the row's closed facts alone. THE STATEMENT IS 'FnFindLabelSymbolNearestWithinFunctionToldSaid' (YtlonnbcmfenkkaaFmtCards.lean). -/
def FnFindLabelSymbolNearestWithinFunctionFormAsk : Prop := fnFindLabelSymbolNearestWithinFunctionRow.holds Tryf.pinned (OpenSpec.ofChange fnFindLabelSymbolNearestWithinFunctionSpec)

/-- ITS FALSE NEIGHBOUR: 'it returns false'. Refute it at one input. -/
def fnFindLabelSymbolNearestWithinFunctionWrong : ChangeSpec := { name := "fnFindLabelSymbolNearestWithinFunction", vars := ["github.com/evanw/esbuild/internal/js_ast.idStartES5OrESNext", "github.com/evanw/esbuild/internal/js_ast.idContinueES5OrESNext", "github.com/evanw/esbuild/internal/ast.InvalidRef"], fn := fun _ => fun
  | [d1, d2, g1, g2, g3] => { results := [.lit (.bool false)], args := [d1, d2], vars := [g1, g2, g3] }
  | _ => none }
def FnFindLabelSymbolNearestWithinFunctionWrongFormAsk : Prop := fnFindLabelSymbolNearestWithinFunctionRow.holds Tryf.pinned (OpenSpec.ofChange fnFindLabelSymbolNearestWithinFunctionWrong)

end Rows
end Go.Proofs.YtlonnbcmfenkkaaFmt

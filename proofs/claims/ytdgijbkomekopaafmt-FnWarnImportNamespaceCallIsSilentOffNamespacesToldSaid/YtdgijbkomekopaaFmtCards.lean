/-
  DERIVED. GIVEN WITH THE SEED: THE CARDS: each row of YtdgijbkomekopaaFmtRows.lean that lists a variable, with what it lists TIED to the program's text (the seventh form; the later family's looks); each row that meets fmt, with fmt's text TOLD by the authors' own Lean function (tested against real Go, not proved from fmt's source: count such statements apart). THE CARD IS WHAT COUNTS. Prove the row's statement (the work); the ties are given (YtdgijbkomekopaaFmtTie.lean); close each card by the builder's one call (the guide's Derived/Test/ToyasCard.lean, 'card_holds'). Laid BY PROGRAM, IN A SANDBOX (cutbox-door.mjs). By AI agents, Wed Nov 11 2026. No macro, syntax, notation, axiom, sorry.
-/
import Derived.Test.YtdgijbkomekopaaFmtRows
import GoSem.ClaimSeven
namespace Go.Proofs.YtdgijbkomekopaaFmt
namespace Rows

/-- THE TOLD AND TIED CARD OF 'n011_136.FnWarnImportNamespaceCallWarnsOncePerRefAndKind'. -/
def fnWarnImportNamespaceCallWarnsOncePerRefAndKindCard : Claim7 := { stood := { row := fnWarnImportNamespaceCallWarnsOncePerRefAndKindRow, standIns := [], harness := (true, "e01eb831a1a5208c32302b2e384d18c1cbb1abf3771d0f1bee938bfc53bc453d"), looks := true }, told := true, laidByText := true, laidKinds := [.pinned, .data], laidTests := true, laidLooks := .later, goes := false }
def FnWarnImportNamespaceCallWarnsOncePerRefAndKindToldSaid : Prop := Claim7.holds Tryf.pinned (.plain (OpenSpec.ofChange fnWarnImportNamespaceCallWarnsOncePerRefAndKindSpec)) fnWarnImportNamespaceCallWarnsOncePerRefAndKindCard
/-- ITS FALSE NEIGHBOUR. Refute it at one input. -/
def FnWarnImportNamespaceCallWarnsOncePerRefAndKindToldWrongFalsely : Prop := Claim7.holds Tryf.pinned (.plain (OpenSpec.ofChange fnWarnImportNamespaceCallWarnsOncePerRefAndKindWrong)) fnWarnImportNamespaceCallWarnsOncePerRefAndKindCard

/-- THE TOLD AND TIED CARD OF 'n011_136.FnWarnImportNamespaceCallIsSilentOffNamespaces'. -/
def fnWarnImportNamespaceCallIsSilentOffNamespacesCard : Claim7 := { stood := { row := fnWarnImportNamespaceCallIsSilentOffNamespacesRow, standIns := [], harness := (true, "e01eb831a1a5208c32302b2e384d18c1cbb1abf3771d0f1bee938bfc53bc453d"), looks := true }, told := true, laidByText := true, laidKinds := [.pinned, .data], laidTests := true, laidLooks := .later, goes := false }
def FnWarnImportNamespaceCallIsSilentOffNamespacesToldSaid : Prop := Claim7.holds Tryf.pinned (.plain (OpenSpec.ofChange fnWarnImportNamespaceCallIsSilentOffNamespacesSpec)) fnWarnImportNamespaceCallIsSilentOffNamespacesCard
/-- ITS FALSE NEIGHBOUR. Refute it at one input. -/
def FnWarnImportNamespaceCallIsSilentOffNamespacesToldWrongFalsely : Prop := Claim7.holds Tryf.pinned (.plain (OpenSpec.ofChange fnWarnImportNamespaceCallIsSilentOffNamespacesWrong)) fnWarnImportNamespaceCallIsSilentOffNamespacesCard
end Rows
end Go.Proofs.YtdgijbkomekopaaFmt

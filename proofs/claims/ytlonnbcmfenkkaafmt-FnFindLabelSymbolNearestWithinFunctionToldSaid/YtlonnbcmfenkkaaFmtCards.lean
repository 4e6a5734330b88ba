/-
  DERIVED. GIVEN WITH THE SEED: THE CARDS: each row of YtlonnbcmfenkkaaFmtRows.lean that lists a variable, with what it lists TIED to the program's text (the seventh form; the later family's looks); each row that meets fmt, with fmt's text TOLD by the authors' own Lean function (tested against real Go, not proved from fmt's source: count such statements apart). THE CARD IS WHAT COUNTS. Prove the row's statement (the work); the ties are given (YtlonnbcmfenkkaaFmtTie.lean); close each card by the builder's one call (the guide's Derived/Test/ToyasCard.lean, 'card_holds'). Laid BY PROGRAM, IN A SANDBOX (cutbox-door.mjs). By AI agents, Wed Nov 11 2026. No macro, syntax, notation, axiom, sorry.
-/
import Derived.Test.YtlonnbcmfenkkaaFmtRows
import GoSem.ClaimSeven
namespace Go.Proofs.YtlonnbcmfenkkaaFmt
namespace Rows

/-- THE TOLD AND TIED CARD OF 'n011_119.FnFindLabelSymbolRepeatsStably'. -/
def fnFindLabelSymbolRepeatsStablyCard : Claim7 := { stood := { row := fnFindLabelSymbolRepeatsStablyRow, standIns := [], harness := (true, "bdf7c031200335726ba070dc2606a53b7777dd59ccbf1495f968fb0b5211dcef"), looks := false }, told := true, laidByText := true, laidKinds := [.pinned, .data, .data], laidTests := true, laidLooks := .later, goes := false }
def FnFindLabelSymbolRepeatsStablyToldSaid : Prop := Claim7.holds Tryf.pinned (.plain (OpenSpec.ofChange fnFindLabelSymbolRepeatsStablySpec)) fnFindLabelSymbolRepeatsStablyCard
/-- ITS FALSE NEIGHBOUR. Refute it at one input. -/
def FnFindLabelSymbolRepeatsStablyToldWrongFalsely : Prop := Claim7.holds Tryf.pinned (.plain (OpenSpec.ofChange fnFindLabelSymbolRepeatsStablyWrong)) fnFindLabelSymbolRepeatsStablyCard

/-- THE TOLD AND TIED CARD OF 'n011_119.FnFindSymbolSecondLookupAgrees'. -/
def fnFindSymbolSecondLookupAgreesCard : Claim7 := { stood := { row := fnFindSymbolSecondLookupAgreesRow, standIns := [], harness := (true, "bdf7c031200335726ba070dc2606a53b7777dd59ccbf1495f968fb0b5211dcef"), looks := false }, told := true, laidByText := true, laidKinds := [.pinned, .data, .data], laidTests := true, laidLooks := .later, goes := false }
def FnFindSymbolSecondLookupAgreesToldSaid : Prop := Claim7.holds Tryf.pinned (.plain (OpenSpec.ofChange fnFindSymbolSecondLookupAgreesSpec)) fnFindSymbolSecondLookupAgreesCard
/-- ITS FALSE NEIGHBOUR. Refute it at one input. -/
def FnFindSymbolSecondLookupAgreesToldWrongFalsely : Prop := Claim7.holds Tryf.pinned (.plain (OpenSpec.ofChange fnFindSymbolSecondLookupAgreesWrong)) fnFindSymbolSecondLookupAgreesCard

/-- THE TOLD AND TIED CARD OF 'n011_119.FnFindLabelSymbolNearestWithinFunction'. -/
def fnFindLabelSymbolNearestWithinFunctionCard : Claim7 := { stood := { row := fnFindLabelSymbolNearestWithinFunctionRow, standIns := [], harness := (true, "bdf7c031200335726ba070dc2606a53b7777dd59ccbf1495f968fb0b5211dcef"), looks := false }, told := true, laidByText := true, laidKinds := [.pinned, .data, .data], laidTests := true, laidLooks := .later, goes := false }
def FnFindLabelSymbolNearestWithinFunctionToldSaid : Prop := Claim7.holds Tryf.pinned (.plain (OpenSpec.ofChange fnFindLabelSymbolNearestWithinFunctionSpec)) fnFindLabelSymbolNearestWithinFunctionCard
/-- ITS FALSE NEIGHBOUR. Refute it at one input. -/
def FnFindLabelSymbolNearestWithinFunctionToldWrongFalsely : Prop := Claim7.holds Tryf.pinned (.plain (OpenSpec.ofChange fnFindLabelSymbolNearestWithinFunctionWrong)) fnFindLabelSymbolNearestWithinFunctionCard
end Rows
end Go.Proofs.YtlonnbcmfenkkaaFmt

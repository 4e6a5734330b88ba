/-
  DERIVED. GIVEN WITH THE SEED: THE PROGRAM's TIES (one call each: nine closed facts by the kernel) AND EACH ROW's TIE, after the 31st guide's Derived/Test/Toyas{Tie, Card}.lean. No idea stands in it: it is a product of the set-up. Laid BY PROGRAM, IN A SANDBOX (cutbox-door.mjs). By AI agents, Wed Nov 11 2026. No macro, syntax, notation, axiom, sorry.
-/
import Derived.Test.YtlonnbcmfenkkaaFmtRows
import Derived.LaidByTextLater
import Derived.SevenTiedAt
namespace Go.Proofs.YtlonnbcmfenkkaaFmt
open Go
theorem pin_laid_unicode_utf8_first : Tryf.pinned.checked.prog.pinnedFits "unicode/utf8.first" = true := by kernel_rfl
theorem noOwnUnsafe : Tryf.pinned.checked.prog.headLifts.contains "ownunsafe" = false := by kernel_rfl
theorem fits1 : Tryf.pinned.checked.prog.listedFits [("unicode/utf8.first", Rows.laid_unicode_utf8_first), ("unicode/utf8.acceptRanges", Rows.laid_unicode_utf8_acceptRanges), ("github.com/evanw/esbuild/internal/ast.InvalidRef", Rows.laid_github_com_evanw_esbuild_internal_ast_InvalidRef)] = true := by
  unfold Program.listedFits
  rw [noOwnUnsafe]
  kernel_rfl
theorem tie : Tryf.prog.laidByTextLater [("unicode/utf8.acceptRanges", Rows.laid_unicode_utf8_acceptRanges), ("github.com/evanw/esbuild/internal/ast.InvalidRef", Rows.laid_github_com_evanw_esbuild_internal_ast_InvalidRef)] [.data, .data] true :=
  Program.laidByTextLater_by_run 400 8 (by kernel_rfl) (by kernel_rfl) (by kernel_rfl) (by kernel_rfl) (by kernel_rfl) (by kernel_rfl) (fun _ _ => by kernel_rfl) (fun _ _ => by kernel_rfl) (fun _ _ => by kernel_rfl)
theorem fnFindLabelSymbolRepeatsStably_row_tie : Rows.fnFindLabelSymbolRepeatsStablyRow.laidByTextAt .later Tryf.pinned [.pinned, .data, .data] true :=
  OpenClaim.laidByTextAt_pinned rfl rfl tie rfl rfl rfl rfl (fun y hy _e => by
    simp only [Rows.fnFindLabelSymbolRepeatsStablyRow, List.zip_cons_cons, List.zip_nil_right, List.mem_cons, List.mem_nil_iff, or_false] at hy
    rcases hy with rfl | rfl | rfl
    · exact ⟨pin_laid_unicode_utf8_first, by kernel_rfl⟩
    · cases _e
    · cases _e) fits1
theorem fnFindSymbolSecondLookupAgrees_row_tie : Rows.fnFindSymbolSecondLookupAgreesRow.laidByTextAt .later Tryf.pinned [.pinned, .data, .data] true :=
  OpenClaim.laidByTextAt_pinned rfl rfl tie rfl rfl rfl rfl (fun y hy _e => by
    simp only [Rows.fnFindSymbolSecondLookupAgreesRow, List.zip_cons_cons, List.zip_nil_right, List.mem_cons, List.mem_nil_iff, or_false] at hy
    rcases hy with rfl | rfl | rfl
    · exact ⟨pin_laid_unicode_utf8_first, by kernel_rfl⟩
    · cases _e
    · cases _e) fits1
theorem fnFindLabelSymbolNearestWithinFunction_row_tie : Rows.fnFindLabelSymbolNearestWithinFunctionRow.laidByTextAt .later Tryf.pinned [.pinned, .data, .data] true :=
  OpenClaim.laidByTextAt_pinned rfl rfl tie rfl rfl rfl rfl (fun y hy _e => by
    simp only [Rows.fnFindLabelSymbolNearestWithinFunctionRow, List.zip_cons_cons, List.zip_nil_right, List.mem_cons, List.mem_nil_iff, or_false] at hy
    rcases hy with rfl | rfl | rfl
    · exact ⟨pin_laid_unicode_utf8_first, by kernel_rfl⟩
    · cases _e
    · cases _e) fits1
end Go.Proofs.YtlonnbcmfenkkaaFmt

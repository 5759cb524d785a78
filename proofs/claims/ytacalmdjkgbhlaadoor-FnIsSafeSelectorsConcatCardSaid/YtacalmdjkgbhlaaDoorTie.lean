/-
  DERIVED. GIVEN WITH THE SEED: THE PROGRAM's TIES (one call each: nine closed facts by the kernel) AND EACH ROW's TIE, after the 31st guide's Derived/Test/Toyas{Tie, Card}.lean. No idea stands in it: it is a product of the set-up. Laid BY PROGRAM, IN A SANDBOX (cutbox-door.mjs). By AI agents, Wed Nov 11 2026. No macro, syntax, notation, axiom, sorry.
-/
import Derived.Test.YtacalmdjkgbhlaaDoorRows
import Derived.LaidByTextLater
import Derived.SevenTiedAt
import Derived.LaidSub
import Derived.LaidOnce
namespace Go.Proofs.YtacalmdjkgbhlaaDoor
open Go
set_option maxRecDepth 100000
theorem seatTie1 : Tryd.prog.laidByTextLater [("github.com/evanw/esbuild/internal/css_parser.nonDeprecatedElementsSupportedByIE7", Rows.laid_github_com_evanw_esbuild_internal_css_parser_nonDeprecatedElementsSupportedByIE7)] [.mapped] true :=
  Program.laidByTextLater_by_one 409 8 2 (by kernel_rfl) (by kernel_rfl) (by kernel_rfl) (by kernel_rfl) (by kernel_rfl) (by kernel_rfl) (fun _ _ => by kernel_rfl)
theorem noOwnUnsafe : Tryd.pinned.checked.prog.headLifts.contains "ownunsafe" = false := by kernel_rfl
theorem tie : Tryd.prog.laidByTextLater [("github.com/evanw/esbuild/internal/css_parser.nonDeprecatedElementsSupportedByIE7", Rows.laid_github_com_evanw_esbuild_internal_css_parser_nonDeprecatedElementsSupportedByIE7)] [.mapped] true :=
  Program.laidByTextLater.sub seatTie1 ["github.com/evanw/esbuild/internal/css_parser.nonDeprecatedElementsSupportedByIE7"] (by kernel_rfl) (by kernel_rfl)
theorem fnIsSafeSelectorsConcat_row_tie : Rows.fnIsSafeSelectorsConcatRow.laidByTextAt .later Tryd.pinned [.mapped] true :=
  OpenClaim.laidByTextAt_later rfl rfl tie noOwnUnsafe
theorem fnIsSafeSelectorsConcatUpto_row_tie : Rows.fnIsSafeSelectorsConcatUptoRow.laidByTextAt .later Tryd.pinned [.mapped] true :=
  OpenClaim.laidByTextAt_later rfl rfl tie noOwnUnsafe
end Go.Proofs.YtacalmdjkgbhlaaDoor

/-
  NARROWER THAN 'FOR EVERY INPUT', by the rows' own cells (each row's printed sentence says how): FnIsSafeSelectorsConcat: maps, laid.
  DERIVED. THE GIVEN ROWS OF THIS SEAT. 1 by the template 'for every input the law returns true; each argument reads behind the call as it read before'; 0 by the template 'total and deterministic' (their statements: YtacalmdjkgbhlaaDoorTotals.lean).
  GIVEN WITH THE SEED: the statements are not yours to turn. If you find one false, say at which input.
  Laid BY PROGRAM, IN A SANDBOX (cutbox-rows.mjs): the forced cells as the released guide's own fill.sh prints them over the translation 6c9655ea0cd3de8e… (all of the seat's roots in one cut). By AI agents, Wed Nov 11 2026. No macro, syntax, notation, axiom, sorry.
-/
import Derived.Test.YtacalmdjkgbhlaaDoorChecked
import GoSem.Claim
import GoSem.ClaimJoined
import GoSem.ClaimMapViews
import Derived.JoinedTies
import Derived.KernelRfl
namespace Go.Proofs.YtacalmdjkgbhlaaDoor
/- THE CELL 'sum', in the pinned program and in every row, IS THE sha256 OF THE DUMP (.gsa) THAT YtacalmdjkgbhlaaDoorProg.lean LOADS. Nothing in Lean hashes anything: it is a label: what it is worth is what the hold of that sum in a sandbox is worth. -/
noncomputable def Tryd.pinned : Pinned := { name := "ytacalmdjkgbhlaadoor", sum := "6c9655ea0cd3de8e7bc7f546523fffc1a3a6e931be6e8b6501a99dc5fdca4ada", checked := Tryd.checked }
namespace Rows
def none {H : Type} : Left H := { results := [], args := [] }

/- WHAT THE LISTED PACKAGE-LEVEL VARIABLES READ AS WHEN THE CALL BEGINS. Each datum BY PROGRAM (the guide's laid-datum.mjs) off the statement by which the dump's own 'gosem.cut.vars' lays the variable. In a bare row this is a premise. The card (YtacalmdjkgbhlaaDoorCards.lean) ties it to the program's text. -/
def laid_github_com_evanw_esbuild_internal_css_parser_nonDeprecatedElementsSupportedByIE7 {H : Type} : DataW H := .map [(.string [97], .lit (.bool true)), (.string [97, 98, 98, 114], .lit (.bool true)), (.string [97, 100, 100, 114, 101, 115, 115], .lit (.bool true)), (.string [97, 114, 101, 97], .lit (.bool true)), (.string [98], .lit (.bool true)), (.string [98, 97, 115, 101], .lit (.bool true)), (.string [98, 108, 111, 99, 107, 113, 117, 111, 116, 101], .lit (.bool true)), (.string [98, 111, 100, 121], .lit (.bool true)), (.string [98, 114], .lit (.bool true)), (.string [98, 117, 116, 116, 111, 110], .lit (.bool true)), (.string [99, 97, 112, 116, 105, 111, 110], .lit (.bool true)), (.string [99, 105, 116, 101], .lit (.bool true)), (.string [99, 111, 100, 101], .lit (.bool true)), (.string [99, 111, 108], .lit (.bool true)), (.string [99, 111, 108, 103, 114, 111, 117, 112], .lit (.bool true)), (.string [100, 100], .lit (.bool true)), (.string [100, 101, 108], .lit (.bool true)), (.string [100, 102, 110], .lit (.bool true)), (.string [100, 105, 118], .lit (.bool true)), (.string [100, 108], .lit (.bool true)), (.string [100, 116], .lit (.bool true)), (.string [101, 109], .lit (.bool true)), (.string [101, 109, 98, 101, 100], .lit (.bool true)), (.string [102, 105, 101, 108, 100, 115, 101, 116], .lit (.bool true)), (.string [102, 111, 114, 109], .lit (.bool true)), (.string [104, 49], .lit (.bool true)), (.string [104, 50], .lit (.bool true)), (.string [104, 51], .lit (.bool true)), (.string [104, 52], .lit (.bool true)), (.string [104, 53], .lit (.bool true)), (.string [104, 54], .lit (.bool true)), (.string [104, 101, 97, 100], .lit (.bool true)), (.string [104, 114], .lit (.bool true)), (.string [104, 116, 109, 108], .lit (.bool true)), (.string [105], .lit (.bool true)), (.string [105, 102, 114, 97, 109, 101], .lit (.bool true)), (.string [105, 109, 103], .lit (.bool true)), (.string [105, 110, 112, 117, 116], .lit (.bool true)), (.string [105, 110, 115], .lit (.bool true)), (.string [107, 98, 100], .lit (.bool true)), (.string [108, 97, 98, 101, 108], .lit (.bool true)), (.string [108, 101, 103, 101, 110, 100], .lit (.bool true)), (.string [108, 105], .lit (.bool true)), (.string [108, 105, 110, 107], .lit (.bool true)), (.string [109, 97, 112], .lit (.bool true)), (.string [109, 101, 110, 117], .lit (.bool true)), (.string [109, 101, 116, 97], .lit (.bool true)), (.string [110, 111, 115, 99, 114, 105, 112, 116], .lit (.bool true)), (.string [111, 98, 106, 101, 99, 116], .lit (.bool true)), (.string [111, 108], .lit (.bool true)), (.string [111, 112, 116, 103, 114, 111, 117, 112], .lit (.bool true)), (.string [111, 112, 116, 105, 111, 110], .lit (.bool true)), (.string [112], .lit (.bool true)), (.string [112, 97, 114, 97, 109], .lit (.bool true)), (.string [112, 114, 101], .lit (.bool true)), (.string [113], .lit (.bool true)), (.string [114, 117, 98, 121], .lit (.bool true)), (.string [115], .lit (.bool true)), (.string [115, 97, 109, 112], .lit (.bool true)), (.string [115, 99, 114, 105, 112, 116], .lit (.bool true)), (.string [115, 101, 108, 101, 99, 116], .lit (.bool true)), (.string [115, 109, 97, 108, 108], .lit (.bool true)), (.string [115, 112, 97, 110], .lit (.bool true)), (.string [115, 116, 114, 111, 110, 103], .lit (.bool true)), (.string [115, 116, 121, 108, 101], .lit (.bool true)), (.string [115, 117, 98], .lit (.bool true)), (.string [115, 117, 112], .lit (.bool true)), (.string [116, 97, 98, 108, 101], .lit (.bool true)), (.string [116, 98, 111, 100, 121], .lit (.bool true)), (.string [116, 100], .lit (.bool true)), (.string [116, 101, 120, 116, 97, 114, 101, 97], .lit (.bool true)), (.string [116, 102, 111, 111, 116], .lit (.bool true)), (.string [116, 104], .lit (.bool true)), (.string [116, 104, 101, 97, 100], .lit (.bool true)), (.string [116, 105, 116, 108, 101], .lit (.bool true)), (.string [116, 114], .lit (.bool true)), (.string [117], .lit (.bool true)), (.string [117, 108], .lit (.bool true)), (.string [118, 97, 114], .lit (.bool true))]

/-- 'n011_227.FnIsSafeSelectorsConcat': WHATEVER THE INPUT: true; the input reads as it did. -/
def fnIsSafeSelectorsConcatSpec : ChangeSpec := { name := "fnIsSafeSelectorsConcat", vars := ["github.com/evanw/esbuild/internal/css_parser.nonDeprecatedElementsSupportedByIE7"], fn := fun _ => fun
  | [d1, d2, g1] => { results := [.lit (.bool true)], args := [d1, d2], vars := [g1] }
  | _ => none }
def fnIsSafeSelectorsConcatRow : OpenClaim := { program := "ytacalmdjkgbhlaadoor", sum := "6c9655ea0cd3de8e7bc7f546523fffc1a3a6e931be6e8b6501a99dc5fdca4ada", func := "github.com/evanw/esbuild/n011_227.FnIsSafeSelectorsConcat", spec := "fnIsSafeSelectorsConcat", named := ["github.com/evanw/esbuild/internal/css_parser.nonDeprecatedElementsSupportedByIE7"], maps := true, apart := false, laid := [("github.com/evanw/esbuild/internal/css_parser.nonDeprecatedElementsSupportedByIE7", laid_github_com_evanw_esbuild_internal_css_parser_nonDeprecatedElementsSupportedByIE7)] }
def FnIsSafeSelectorsConcatSaid : Prop := fnIsSafeSelectorsConcatRow.holds Tryd.pinned (OpenSpec.ofChange fnIsSafeSelectorsConcatSpec)

/-- ITS FALSE NEIGHBOUR: 'it returns false'. Refute it at one input. -/
def fnIsSafeSelectorsConcatWrong : ChangeSpec := { name := "fnIsSafeSelectorsConcat", vars := ["github.com/evanw/esbuild/internal/css_parser.nonDeprecatedElementsSupportedByIE7"], fn := fun _ => fun
  | [d1, d2, g1] => { results := [.lit (.bool false)], args := [d1, d2], vars := [g1] }
  | _ => none }
def FnIsSafeSelectorsConcatWrongFalsely : Prop := fnIsSafeSelectorsConcatRow.holds Tryd.pinned (OpenSpec.ofChange fnIsSafeSelectorsConcatWrong)

/- THE SECOND FORM. 'bulk': how many values and letters a reading holds, each counted each time it is reached (what is shared counts as often as it is met; a slice's spare places count too). A statement '..UptoSaid' is the law's where the arguments, and the package variables that the reading takes, are together of bulk at most 1048576: NARROWER than '..Said'. Prove '..Said' where nothing that the law and all that it calls make is longer than what came in: it says more and counts as full. Else prove '..UptoSaid'. A law counts once. -/
mutual
def uptoBulk {H : Type} : DataW H → Nat
  | .lit (.string bytes) => bytes.length + 1
  | .lit _ => 1
  | .nil => 1
  | .ptr d => uptoBulk d + 1
  | .slice elems spare => uptoBulkAll elems + uptoBulkAll spare + 1
  | .agg parts => uptoBulkAll parts + 1
  | .iface _ d => uptoBulk d + 1
  | .map entries => uptoBulkEntries entries + 1
  | .held _ => 1
def uptoBulkAll {H : Type} : List (DataW H) → Nat
  | [] => 0
  | d :: r => uptoBulk d + uptoBulkAll r
def uptoBulkEntries {H : Type} : List (Lit × DataW H) → Nat
  | [] => 0
  | x :: r => uptoBulkEntry x + uptoBulkEntries r
def uptoBulkEntry {H : Type} : Lit × DataW H → Nat
  | (.string bytes, d) => bytes.length + uptoBulk d + 1
  | (_, d) => uptoBulk d + 1
 end
def uptoSmall : (H : Type) → List (DataW H) → Bool := fun _ ds => decide (uptoBulkAll ds ≤ 1048576)
def OpenSpec.upto (s : _root_.Go.ChangeSpec) : _root_.Go.OpenSpec := { _root_.Go.OpenSpec.ofChange s with cond := some uptoSmall }

/-- 'n011_227.FnIsSafeSelectorsConcat', WHERE WHAT IT READS IS OF BULK AT MOST 1048576: true; the input reads as it did. -/
def fnIsSafeSelectorsConcatUptoRow : OpenClaim := { program := "ytacalmdjkgbhlaadoor", sum := "6c9655ea0cd3de8e7bc7f546523fffc1a3a6e931be6e8b6501a99dc5fdca4ada", func := "github.com/evanw/esbuild/n011_227.FnIsSafeSelectorsConcat", spec := "fnIsSafeSelectorsConcat", named := ["github.com/evanw/esbuild/internal/css_parser.nonDeprecatedElementsSupportedByIE7"], maps := true, apart := false, laid := [("github.com/evanw/esbuild/internal/css_parser.nonDeprecatedElementsSupportedByIE7", laid_github_com_evanw_esbuild_internal_css_parser_nonDeprecatedElementsSupportedByIE7)], narrowed := true }
def FnIsSafeSelectorsConcatUptoSaid : Prop := fnIsSafeSelectorsConcatUptoRow.holds Tryd.pinned (OpenSpec.upto fnIsSafeSelectorsConcatSpec)

end Rows
end Go.Proofs.YtacalmdjkgbhlaaDoor

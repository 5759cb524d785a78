/-
  No cell of these rows narrows 'for every input' (looked for: loops, veiled, ifaces, maps, wideKeys, modest, calm, conditions, laid).
  DERIVED. THE GIVEN ROWS OF THIS SEAT. 4 by the template 'for every input the law returns true; each argument reads behind the call as it read before'; 0 by the template 'total and deterministic' (their statements: YtpnfllnnbinbjaaTotals.lean).
  GIVEN WITH THE SEED: the statements are not yours to turn. If you find one false, say at which input.
  Laid BY PROGRAM, IN A SANDBOX (cutbox-rows.mjs): the forced cells as the released guide's own fill.sh prints them over the translation 3ea2aad3cb76b4dd… (all of the seat's roots in one cut). By AI agents, Wed Nov 11 2026. No macro, syntax, notation, axiom, sorry.
-/
import Derived.Test.YtpnfllnnbinbjaaChecked
import GoSem.Claim
import GoSem.ClaimJoined
import GoSem.ClaimMapViews
import Derived.JoinedTies
import Derived.KernelRfl
namespace Go.Proofs.Ytpnfllnnbinbjaa
/- THE CELL 'sum', in the pinned program and in every row, IS THE sha256 OF THE DUMP (.gsa) THAT YtpnfllnnbinbjaaProg.lean LOADS. Nothing in Lean hashes anything: it is a label: what it is worth is what the hold of that sum in a sandbox is worth. -/
noncomputable def Try.pinned : Pinned := { name := "ytpnfllnnbinbjaa", sum := "3ea2aad3cb76b4dd2acde2a8bb625e25c2019e92cdcdced44040c1d7967161b0", checked := Try.checked }
namespace Rows
def none {H : Type} : Left H := { results := [], args := [] }

/-- 'n011_10.FnScanMediaComparisonDecidesOnItsFirstTwoTokens': WHATEVER THE INPUT: true; the input reads as it did. -/
def fnScanMediaComparisonDecidesOnItsFirstTwoTokensSpec : ChangeSpec := { name := "fnScanMediaComparisonDecidesOnItsFirstTwoTokens", fn := fun _ => fun
  | [d1, d2] => { results := [.lit (.bool true)], args := [d1, d2] }
  | _ => none }
def fnScanMediaComparisonDecidesOnItsFirstTwoTokensRow : OpenClaim := { program := "ytpnfllnnbinbjaa", sum := "3ea2aad3cb76b4dd2acde2a8bb625e25c2019e92cdcdced44040c1d7967161b0", func := "github.com/evanw/esbuild/n011_10.FnScanMediaComparisonDecidesOnItsFirstTwoTokens", spec := "fnScanMediaComparisonDecidesOnItsFirstTwoTokens", apart := false }
def FnScanMediaComparisonDecidesOnItsFirstTwoTokensSaid : Prop := fnScanMediaComparisonDecidesOnItsFirstTwoTokensRow.holds Try.pinned (OpenSpec.ofChange fnScanMediaComparisonDecidesOnItsFirstTwoTokensSpec)

/-- ITS FALSE NEIGHBOUR: 'it returns false'. Refute it at one input. -/
def fnScanMediaComparisonDecidesOnItsFirstTwoTokensWrong : ChangeSpec := { name := "fnScanMediaComparisonDecidesOnItsFirstTwoTokens", fn := fun _ => fun
  | [d1, d2] => { results := [.lit (.bool false)], args := [d1, d2] }
  | _ => none }
def FnScanMediaComparisonDecidesOnItsFirstTwoTokensWrongFalsely : Prop := fnScanMediaComparisonDecidesOnItsFirstTwoTokensRow.holds Try.pinned (OpenSpec.ofChange fnScanMediaComparisonDecidesOnItsFirstTwoTokensWrong)

/-- 'n011_189.FnPlainOrBooleanVerdictIgnoresTexts': WHATEVER THE INPUT: true; the input reads as it did. -/
def fnPlainOrBooleanVerdictIgnoresTextsSpec : ChangeSpec := { name := "fnPlainOrBooleanVerdictIgnoresTexts", fn := fun _ => fun
  | [d1, d2] => { results := [.lit (.bool true)], args := [d1, d2] }
  | _ => none }
def fnPlainOrBooleanVerdictIgnoresTextsRow : OpenClaim := { program := "ytpnfllnnbinbjaa", sum := "3ea2aad3cb76b4dd2acde2a8bb625e25c2019e92cdcdced44040c1d7967161b0", func := "github.com/evanw/esbuild/n011_189.FnPlainOrBooleanVerdictIgnoresTexts", spec := "fnPlainOrBooleanVerdictIgnoresTexts", apart := false }
def FnPlainOrBooleanVerdictIgnoresTextsSaid : Prop := fnPlainOrBooleanVerdictIgnoresTextsRow.holds Try.pinned (OpenSpec.ofChange fnPlainOrBooleanVerdictIgnoresTextsSpec)

/-- ITS FALSE NEIGHBOUR: 'it returns false'. Refute it at one input. -/
def fnPlainOrBooleanVerdictIgnoresTextsWrong : ChangeSpec := { name := "fnPlainOrBooleanVerdictIgnoresTexts", fn := fun _ => fun
  | [d1, d2] => { results := [.lit (.bool false)], args := [d1, d2] }
  | _ => none }
def FnPlainOrBooleanVerdictIgnoresTextsWrongFalsely : Prop := fnPlainOrBooleanVerdictIgnoresTextsRow.holds Try.pinned (OpenSpec.ofChange fnPlainOrBooleanVerdictIgnoresTextsWrong)

/-- 'n011_9.FnScanMediaValueLooksAtMostThreeAhead': WHATEVER THE INPUT: true; the input reads as it did. -/
def fnScanMediaValueLooksAtMostThreeAheadSpec : ChangeSpec := { name := "fnScanMediaValueLooksAtMostThreeAhead", fn := fun _ => fun
  | [d1, d2, d3] => { results := [.lit (.bool true)], args := [d1, d2, d3] }
  | _ => none }
def fnScanMediaValueLooksAtMostThreeAheadRow : OpenClaim := { program := "ytpnfllnnbinbjaa", sum := "3ea2aad3cb76b4dd2acde2a8bb625e25c2019e92cdcdced44040c1d7967161b0", func := "github.com/evanw/esbuild/n011_9.FnScanMediaValueLooksAtMostThreeAhead", spec := "fnScanMediaValueLooksAtMostThreeAhead", apart := false }
def FnScanMediaValueLooksAtMostThreeAheadSaid : Prop := fnScanMediaValueLooksAtMostThreeAheadRow.holds Try.pinned (OpenSpec.ofChange fnScanMediaValueLooksAtMostThreeAheadSpec)

/-- ITS FALSE NEIGHBOUR: 'it returns false'. Refute it at one input. -/
def fnScanMediaValueLooksAtMostThreeAheadWrong : ChangeSpec := { name := "fnScanMediaValueLooksAtMostThreeAhead", fn := fun _ => fun
  | [d1, d2, d3] => { results := [.lit (.bool false)], args := [d1, d2, d3] }
  | _ => none }
def FnScanMediaValueLooksAtMostThreeAheadWrongFalsely : Prop := fnScanMediaValueLooksAtMostThreeAheadRow.holds Try.pinned (OpenSpec.ofChange fnScanMediaValueLooksAtMostThreeAheadWrong)

/-- 'n011_10.FnParseRangeMediaFeatureShape': WHATEVER THE INPUT: true; the input reads as it did. -/
def fnParseRangeMediaFeatureShapeSpec : ChangeSpec := { name := "fnParseRangeMediaFeatureShape", fn := fun _ => fun
  | [d] => { results := [.lit (.bool true)], args := [d] }
  | _ => none }
def fnParseRangeMediaFeatureShapeRow : OpenClaim := { program := "ytpnfllnnbinbjaa", sum := "3ea2aad3cb76b4dd2acde2a8bb625e25c2019e92cdcdced44040c1d7967161b0", func := "github.com/evanw/esbuild/n011_10.FnParseRangeMediaFeatureShape", spec := "fnParseRangeMediaFeatureShape", apart := false }
def FnParseRangeMediaFeatureShapeSaid : Prop := fnParseRangeMediaFeatureShapeRow.holds Try.pinned (OpenSpec.ofChange fnParseRangeMediaFeatureShapeSpec)

/-- ITS FALSE NEIGHBOUR: 'it returns false'. Refute it at one input. -/
def fnParseRangeMediaFeatureShapeWrong : ChangeSpec := { name := "fnParseRangeMediaFeatureShape", fn := fun _ => fun
  | [d] => { results := [.lit (.bool false)], args := [d] }
  | _ => none }
def FnParseRangeMediaFeatureShapeWrongFalsely : Prop := fnParseRangeMediaFeatureShapeRow.holds Try.pinned (OpenSpec.ofChange fnParseRangeMediaFeatureShapeWrong)

/- THE SECOND FORM. 'bulk': how many values and letters a reading holds, each counted each time it is reached (what is shared counts as often as it is met; a slice's spare places count too). A statement '..UptoSaid' is the law's where the arguments, and the package variables that the reading takes, are together of bulk at most 1048576: NARROWER than '..Said'. Prove '..Said' where nothing that the law and all that it calls make is longer than what came in: it says more and counts as full. Else prove '..UptoSaid'. A law counts once. -/
mutual
def uptoBulk {H : Type} : DataW H → Nat
  | .lit (.string bytes) => bytes.length + 1
  | .lit _ => 1
  | .nil => 1
  | .ptr d => uptoBulk d + 1
  | .slice elems spare => uptoBulkAll elems + uptoBulkAll spare + 1
  | .agg parts => uptoBulkAll parts + 1
  | .iface _ d => uptoBulk d + 1
  | .map entries => uptoBulkEntries entries + 1
  | .held _ => 1
def uptoBulkAll {H : Type} : List (DataW H) → Nat
  | [] => 0
  | d :: r => uptoBulk d + uptoBulkAll r
def uptoBulkEntries {H : Type} : List (Lit × DataW H) → Nat
  | [] => 0
  | x :: r => uptoBulkEntry x + uptoBulkEntries r
def uptoBulkEntry {H : Type} : Lit × DataW H → Nat
  | (.string bytes, d) => bytes.length + uptoBulk d + 1
  | (_, d) => uptoBulk d + 1
 end
def uptoSmall : (H : Type) → List (DataW H) → Bool := fun _ ds => decide (uptoBulkAll ds ≤ 1048576)
def OpenSpec.upto (s : _root_.Go.ChangeSpec) : _root_.Go.OpenSpec := { _root_.Go.OpenSpec.ofChange s with cond := some uptoSmall }

/-- 'n011_10.FnScanMediaComparisonDecidesOnItsFirstTwoTokens', WHERE WHAT IT READS IS OF BULK AT MOST 1048576: true; the input reads as it did. -/
def fnScanMediaComparisonDecidesOnItsFirstTwoTokensUptoRow : OpenClaim := { program := "ytpnfllnnbinbjaa", sum := "3ea2aad3cb76b4dd2acde2a8bb625e25c2019e92cdcdced44040c1d7967161b0", func := "github.com/evanw/esbuild/n011_10.FnScanMediaComparisonDecidesOnItsFirstTwoTokens", spec := "fnScanMediaComparisonDecidesOnItsFirstTwoTokens", apart := false, narrowed := true }
def FnScanMediaComparisonDecidesOnItsFirstTwoTokensUptoSaid : Prop := fnScanMediaComparisonDecidesOnItsFirstTwoTokensUptoRow.holds Try.pinned (OpenSpec.upto fnScanMediaComparisonDecidesOnItsFirstTwoTokensSpec)

/-- 'n011_189.FnPlainOrBooleanVerdictIgnoresTexts', WHERE WHAT IT READS IS OF BULK AT MOST 1048576: true; the input reads as it did. -/
def fnPlainOrBooleanVerdictIgnoresTextsUptoRow : OpenClaim := { program := "ytpnfllnnbinbjaa", sum := "3ea2aad3cb76b4dd2acde2a8bb625e25c2019e92cdcdced44040c1d7967161b0", func := "github.com/evanw/esbuild/n011_189.FnPlainOrBooleanVerdictIgnoresTexts", spec := "fnPlainOrBooleanVerdictIgnoresTexts", apart := false, narrowed := true }
def FnPlainOrBooleanVerdictIgnoresTextsUptoSaid : Prop := fnPlainOrBooleanVerdictIgnoresTextsUptoRow.holds Try.pinned (OpenSpec.upto fnPlainOrBooleanVerdictIgnoresTextsSpec)

/-- 'n011_9.FnScanMediaValueLooksAtMostThreeAhead', WHERE WHAT IT READS IS OF BULK AT MOST 1048576: true; the input reads as it did. -/
def fnScanMediaValueLooksAtMostThreeAheadUptoRow : OpenClaim := { program := "ytpnfllnnbinbjaa", sum := "3ea2aad3cb76b4dd2acde2a8bb625e25c2019e92cdcdced44040c1d7967161b0", func := "github.com/evanw/esbuild/n011_9.FnScanMediaValueLooksAtMostThreeAhead", spec := "fnScanMediaValueLooksAtMostThreeAhead", apart := false, narrowed := true }
def FnScanMediaValueLooksAtMostThreeAheadUptoSaid : Prop := fnScanMediaValueLooksAtMostThreeAheadUptoRow.holds Try.pinned (OpenSpec.upto fnScanMediaValueLooksAtMostThreeAheadSpec)

/-- 'n011_10.FnParseRangeMediaFeatureShape', WHERE WHAT IT READS IS OF BULK AT MOST 1048576: true; the input reads as it did. -/
def fnParseRangeMediaFeatureShapeUptoRow : OpenClaim := { program := "ytpnfllnnbinbjaa", sum := "3ea2aad3cb76b4dd2acde2a8bb625e25c2019e92cdcdced44040c1d7967161b0", func := "github.com/evanw/esbuild/n011_10.FnParseRangeMediaFeatureShape", spec := "fnParseRangeMediaFeatureShape", apart := false, narrowed := true }
def FnParseRangeMediaFeatureShapeUptoSaid : Prop := fnParseRangeMediaFeatureShapeUptoRow.holds Try.pinned (OpenSpec.upto fnParseRangeMediaFeatureShapeSpec)

end Rows
end Go.Proofs.Ytpnfllnnbinbjaa

/-
  No cell of these rows narrows 'for every input' (looked for: loops, veiled, ifaces, maps, wideKeys, modest, calm, conditions, laid).
  DERIVED. THE GIVEN ROWS OF THIS SEAT. 5 by the template 'for every input the law returns true; each argument reads behind the call as it read before'; 0 by the template 'total and deterministic' (their statements: YtanaamlkiackbaaTotals.lean).
  GIVEN WITH THE SEED: the statements are not yours to turn. If you find one false, say at which input.
  Laid BY PROGRAM, IN A SANDBOX (cutbox-rows.mjs): the forced cells as the released guide's own fill.sh prints them over the translation 28056c3aa96ef08b… (all of the seat's roots in one cut). By AI agents, Wed Nov 11 2026. No macro, syntax, notation, axiom, sorry.
-/
import Derived.Test.YtanaamlkiackbaaChecked
import GoSem.Claim
import GoSem.ClaimJoined
import GoSem.ClaimMapViews
import Derived.JoinedTies
import Derived.KernelRfl
namespace Go.Proofs.Ytanaamlkiackbaa
/- THE CELL 'sum', in the pinned program and in every row, IS THE sha256 OF THE DUMP (.gsa) THAT YtanaamlkiackbaaProg.lean LOADS. Nothing in Lean hashes anything: it is a label: what it is worth is what the hold of that sum in a sandbox is worth. -/
noncomputable def Try.pinned : Pinned := { name := "ytanaamlkiackbaa", sum := "28056c3aa96ef08b9ee2447aa38031b0186f1a64eb13c6e6a400c5a5b171ea15", checked := Try.checked }
namespace Rows
def none {H : Type} : Left H := { results := [], args := [] }

/-- 'n011_126.FnHueToRgbStaysBetweenEnds': WHATEVER THE INPUT: true; the input reads as it did. -/
def fnHueToRgbStaysBetweenEndsSpec : ChangeSpec := { name := "fnHueToRgbStaysBetweenEnds", fn := fun _ => fun
  | [d1, d2, d3] => { results := [.lit (.bool true)], args := [d1, d2, d3] }
  | _ => none }
def fnHueToRgbStaysBetweenEndsRow : OpenClaim := { program := "ytanaamlkiackbaa", sum := "28056c3aa96ef08b9ee2447aa38031b0186f1a64eb13c6e6a400c5a5b171ea15", func := "github.com/evanw/esbuild/n011_126.FnHueToRgbStaysBetweenEnds", spec := "fnHueToRgbStaysBetweenEnds", inPlace := ["math.archFloor", "math.Float64bits", "math.Float64frombits", "math.archTrunc"], apart := false }
def FnHueToRgbStaysBetweenEndsSaid : Prop := fnHueToRgbStaysBetweenEndsRow.holds Try.pinned (OpenSpec.ofChange fnHueToRgbStaysBetweenEndsSpec)

/-- ITS FALSE NEIGHBOUR: 'it returns false'. Refute it at one input. -/
def fnHueToRgbStaysBetweenEndsWrong : ChangeSpec := { name := "fnHueToRgbStaysBetweenEnds", fn := fun _ => fun
  | [d1, d2, d3] => { results := [.lit (.bool false)], args := [d1, d2, d3] }
  | _ => none }
def FnHueToRgbStaysBetweenEndsWrongFalsely : Prop := fnHueToRgbStaysBetweenEndsRow.holds Try.pinned (OpenSpec.ofChange fnHueToRgbStaysBetweenEndsWrong)

/-- 'n011_191.FnMultiplyMatricesOddInTheVector': WHATEVER THE INPUT: true; the input reads as it did. -/
def fnMultiplyMatricesOddInTheVectorSpec : ChangeSpec := { name := "fnMultiplyMatricesOddInTheVector", fn := fun _ => fun
  | [d1, d2, d3, d4] => { results := [.lit (.bool true)], args := [d1, d2, d3, d4] }
  | _ => none }
def fnMultiplyMatricesOddInTheVectorRow : OpenClaim := { program := "ytanaamlkiackbaa", sum := "28056c3aa96ef08b9ee2447aa38031b0186f1a64eb13c6e6a400c5a5b171ea15", func := "github.com/evanw/esbuild/n011_191.FnMultiplyMatricesOddInTheVector", spec := "fnMultiplyMatricesOddInTheVector", apart := false }
def FnMultiplyMatricesOddInTheVectorSaid : Prop := fnMultiplyMatricesOddInTheVectorRow.holds Try.pinned (OpenSpec.ofChange fnMultiplyMatricesOddInTheVectorSpec)

/-- ITS FALSE NEIGHBOUR: 'it returns false'. Refute it at one input. -/
def fnMultiplyMatricesOddInTheVectorWrong : ChangeSpec := { name := "fnMultiplyMatricesOddInTheVector", fn := fun _ => fun
  | [d1, d2, d3, d4] => { results := [.lit (.bool false)], args := [d1, d2, d3, d4] }
  | _ => none }
def FnMultiplyMatricesOddInTheVectorWrongFalsely : Prop := fnMultiplyMatricesOddInTheVectorRow.holds Try.pinned (OpenSpec.ofChange fnMultiplyMatricesOddInTheVectorWrong)

/-- 'n011_267.FnHwbToRgbChannelsStayInUnitInterval': WHATEVER THE INPUT: true; the input reads as it did. -/
def fnHwbToRgbChannelsStayInUnitIntervalSpec : ChangeSpec := { name := "fnHwbToRgbChannelsStayInUnitInterval", fn := fun _ => fun
  | [d1, d2, d3] => { results := [.lit (.bool true)], args := [d1, d2, d3] }
  | _ => none }
def fnHwbToRgbChannelsStayInUnitIntervalRow : OpenClaim := { program := "ytanaamlkiackbaa", sum := "28056c3aa96ef08b9ee2447aa38031b0186f1a64eb13c6e6a400c5a5b171ea15", func := "github.com/evanw/esbuild/n011_267.FnHwbToRgbChannelsStayInUnitInterval", spec := "fnHwbToRgbChannelsStayInUnitInterval", inPlace := ["math.archFloor", "math.Float64bits", "math.Float64frombits", "math.archTrunc", "math.archMin", "math.archMax"], unfollowed := true, recurses := true, apart := false }
def FnHwbToRgbChannelsStayInUnitIntervalSaid : Prop := fnHwbToRgbChannelsStayInUnitIntervalRow.holds Try.pinned (OpenSpec.ofChange fnHwbToRgbChannelsStayInUnitIntervalSpec)

/-- ITS FALSE NEIGHBOUR: 'it returns false'. Refute it at one input. -/
def fnHwbToRgbChannelsStayInUnitIntervalWrong : ChangeSpec := { name := "fnHwbToRgbChannelsStayInUnitInterval", fn := fun _ => fun
  | [d1, d2, d3] => { results := [.lit (.bool false)], args := [d1, d2, d3] }
  | _ => none }
def FnHwbToRgbChannelsStayInUnitIntervalWrongFalsely : Prop := fnHwbToRgbChannelsStayInUnitIntervalRow.holds Try.pinned (OpenSpec.ofChange fnHwbToRgbChannelsStayInUnitIntervalWrong)

/-- 'n011_142.FnDeltaEOKSingleAxisIsAbsoluteDifference': WHATEVER THE INPUT: true; the input reads as it did. -/
def fnDeltaEOKSingleAxisIsAbsoluteDifferenceSpec : ChangeSpec := { name := "fnDeltaEOKSingleAxisIsAbsoluteDifference", fn := fun _ => fun
  | [d1, d2, d3, d4, d5] => { results := [.lit (.bool true)], args := [d1, d2, d3, d4, d5] }
  | _ => none }
def fnDeltaEOKSingleAxisIsAbsoluteDifferenceRow : OpenClaim := { program := "ytanaamlkiackbaa", sum := "28056c3aa96ef08b9ee2447aa38031b0186f1a64eb13c6e6a400c5a5b171ea15", func := "github.com/evanw/esbuild/n011_142.FnDeltaEOKSingleAxisIsAbsoluteDifference", spec := "fnDeltaEOKSingleAxisIsAbsoluteDifference", inPlace := ["math.sqrt"], apart := false }
def FnDeltaEOKSingleAxisIsAbsoluteDifferenceSaid : Prop := fnDeltaEOKSingleAxisIsAbsoluteDifferenceRow.holds Try.pinned (OpenSpec.ofChange fnDeltaEOKSingleAxisIsAbsoluteDifferenceSpec)

/-- ITS FALSE NEIGHBOUR: 'it returns false'. Refute it at one input. -/
def fnDeltaEOKSingleAxisIsAbsoluteDifferenceWrong : ChangeSpec := { name := "fnDeltaEOKSingleAxisIsAbsoluteDifference", fn := fun _ => fun
  | [d1, d2, d3, d4, d5] => { results := [.lit (.bool false)], args := [d1, d2, d3, d4, d5] }
  | _ => none }
def FnDeltaEOKSingleAxisIsAbsoluteDifferenceWrongFalsely : Prop := fnDeltaEOKSingleAxisIsAbsoluteDifferenceRow.holds Try.pinned (OpenSpec.ofChange fnDeltaEOKSingleAxisIsAbsoluteDifferenceWrong)

/-- 'n011_142.FnRGBToHSLHexagonCornersAndGrey': WHATEVER THE INPUT: true; the input reads as it did. -/
def fnRGBToHSLHexagonCornersAndGreySpec : ChangeSpec := { name := "fnRGBToHSLHexagonCornersAndGrey", fn := fun _ => fun
  | [d1, d2] => { results := [.lit (.bool true)], args := [d1, d2] }
  | _ => none }
def fnRGBToHSLHexagonCornersAndGreyRow : OpenClaim := { program := "ytanaamlkiackbaa", sum := "28056c3aa96ef08b9ee2447aa38031b0186f1a64eb13c6e6a400c5a5b171ea15", func := "github.com/evanw/esbuild/n011_142.FnRGBToHSLHexagonCornersAndGrey", spec := "fnRGBToHSLHexagonCornersAndGrey", inPlace := ["math.archMax", "math.Float64bits", "math.Float64frombits", "math.archMin"], apart := false }
def FnRGBToHSLHexagonCornersAndGreySaid : Prop := fnRGBToHSLHexagonCornersAndGreyRow.holds Try.pinned (OpenSpec.ofChange fnRGBToHSLHexagonCornersAndGreySpec)

/-- ITS FALSE NEIGHBOUR: 'it returns false'. Refute it at one input. -/
def fnRGBToHSLHexagonCornersAndGreyWrong : ChangeSpec := { name := "fnRGBToHSLHexagonCornersAndGrey", fn := fun _ => fun
  | [d1, d2] => { results := [.lit (.bool false)], args := [d1, d2] }
  | _ => none }
def FnRGBToHSLHexagonCornersAndGreyWrongFalsely : Prop := fnRGBToHSLHexagonCornersAndGreyRow.holds Try.pinned (OpenSpec.ofChange fnRGBToHSLHexagonCornersAndGreyWrong)

/- THE SECOND FORM. 'bulk': how many values and letters a reading holds, each counted each time it is reached (what is shared counts as often as it is met; a slice's spare places count too). A statement '..UptoSaid' is the law's where the arguments, and the package variables that the reading takes, are together of bulk at most 1048576: NARROWER than '..Said'. Prove '..Said' where nothing that the law and all that it calls make is longer than what came in: it says more and counts as full. Else prove '..UptoSaid'. A law counts once. -/
mutual
def uptoBulk {H : Type} : DataW H → Nat
  | .lit (.string bytes) => bytes.length + 1
  | .lit _ => 1
  | .nil => 1
  | .ptr d => uptoBulk d + 1
  | .slice elems spare => uptoBulkAll elems + uptoBulkAll spare + 1
  | .agg parts => uptoBulkAll parts + 1
  | .iface _ d => uptoBulk d + 1
  | .map entries => uptoBulkEntries entries + 1
  | .held _ => 1
def uptoBulkAll {H : Type} : List (DataW H) → Nat
  | [] => 0
  | d :: r => uptoBulk d + uptoBulkAll r
def uptoBulkEntries {H : Type} : List (Lit × DataW H) → Nat
  | [] => 0
  | x :: r => uptoBulkEntry x + uptoBulkEntries r
def uptoBulkEntry {H : Type} : Lit × DataW H → Nat
  | (.string bytes, d) => bytes.length + uptoBulk d + 1
  | (_, d) => uptoBulk d + 1
 end
def uptoSmall : (H : Type) → List (DataW H) → Bool := fun _ ds => decide (uptoBulkAll ds ≤ 1048576)
def OpenSpec.upto (s : _root_.Go.ChangeSpec) : _root_.Go.OpenSpec := { _root_.Go.OpenSpec.ofChange s with cond := some uptoSmall }

/-- 'n011_126.FnHueToRgbStaysBetweenEnds', WHERE WHAT IT READS IS OF BULK AT MOST 1048576: true; the input reads as it did. -/
def fnHueToRgbStaysBetweenEndsUptoRow : OpenClaim := { program := "ytanaamlkiackbaa", sum := "28056c3aa96ef08b9ee2447aa38031b0186f1a64eb13c6e6a400c5a5b171ea15", func := "github.com/evanw/esbuild/n011_126.FnHueToRgbStaysBetweenEnds", spec := "fnHueToRgbStaysBetweenEnds", inPlace := ["math.archFloor", "math.Float64bits", "math.Float64frombits", "math.archTrunc"], apart := false, narrowed := true }
def FnHueToRgbStaysBetweenEndsUptoSaid : Prop := fnHueToRgbStaysBetweenEndsUptoRow.holds Try.pinned (OpenSpec.upto fnHueToRgbStaysBetweenEndsSpec)

/-- 'n011_191.FnMultiplyMatricesOddInTheVector', WHERE WHAT IT READS IS OF BULK AT MOST 1048576: true; the input reads as it did. -/
def fnMultiplyMatricesOddInTheVectorUptoRow : OpenClaim := { program := "ytanaamlkiackbaa", sum := "28056c3aa96ef08b9ee2447aa38031b0186f1a64eb13c6e6a400c5a5b171ea15", func := "github.com/evanw/esbuild/n011_191.FnMultiplyMatricesOddInTheVector", spec := "fnMultiplyMatricesOddInTheVector", apart := false, narrowed := true }
def FnMultiplyMatricesOddInTheVectorUptoSaid : Prop := fnMultiplyMatricesOddInTheVectorUptoRow.holds Try.pinned (OpenSpec.upto fnMultiplyMatricesOddInTheVectorSpec)

/-- 'n011_267.FnHwbToRgbChannelsStayInUnitInterval', WHERE WHAT IT READS IS OF BULK AT MOST 1048576: true; the input reads as it did. -/
def fnHwbToRgbChannelsStayInUnitIntervalUptoRow : OpenClaim := { program := "ytanaamlkiackbaa", sum := "28056c3aa96ef08b9ee2447aa38031b0186f1a64eb13c6e6a400c5a5b171ea15", func := "github.com/evanw/esbuild/n011_267.FnHwbToRgbChannelsStayInUnitInterval", spec := "fnHwbToRgbChannelsStayInUnitInterval", inPlace := ["math.archFloor", "math.Float64bits", "math.Float64frombits", "math.archTrunc", "math.archMin", "math.archMax"], unfollowed := true, recurses := true, apart := false, narrowed := true }
def FnHwbToRgbChannelsStayInUnitIntervalUptoSaid : Prop := fnHwbToRgbChannelsStayInUnitIntervalUptoRow.holds Try.pinned (OpenSpec.upto fnHwbToRgbChannelsStayInUnitIntervalSpec)

/-- 'n011_142.FnDeltaEOKSingleAxisIsAbsoluteDifference', WHERE WHAT IT READS IS OF BULK AT MOST 1048576: true; the input reads as it did. -/
def fnDeltaEOKSingleAxisIsAbsoluteDifferenceUptoRow : OpenClaim := { program := "ytanaamlkiackbaa", sum := "28056c3aa96ef08b9ee2447aa38031b0186f1a64eb13c6e6a400c5a5b171ea15", func := "github.com/evanw/esbuild/n011_142.FnDeltaEOKSingleAxisIsAbsoluteDifference", spec := "fnDeltaEOKSingleAxisIsAbsoluteDifference", inPlace := ["math.sqrt"], apart := false, narrowed := true }
def FnDeltaEOKSingleAxisIsAbsoluteDifferenceUptoSaid : Prop := fnDeltaEOKSingleAxisIsAbsoluteDifferenceUptoRow.holds Try.pinned (OpenSpec.upto fnDeltaEOKSingleAxisIsAbsoluteDifferenceSpec)

/-- 'n011_142.FnRGBToHSLHexagonCornersAndGrey', WHERE WHAT IT READS IS OF BULK AT MOST 1048576: true; the input reads as it did. -/
def fnRGBToHSLHexagonCornersAndGreyUptoRow : OpenClaim := { program := "ytanaamlkiackbaa", sum := "28056c3aa96ef08b9ee2447aa38031b0186f1a64eb13c6e6a400c5a5b171ea15", func := "github.com/evanw/esbuild/n011_142.FnRGBToHSLHexagonCornersAndGrey", spec := "fnRGBToHSLHexagonCornersAndGrey", inPlace := ["math.archMax", "math.Float64bits", "math.Float64frombits", "math.archMin"], apart := false, narrowed := true }
def FnRGBToHSLHexagonCornersAndGreyUptoSaid : Prop := fnRGBToHSLHexagonCornersAndGreyUptoRow.holds Try.pinned (OpenSpec.upto fnRGBToHSLHexagonCornersAndGreySpec)

end Rows
end Go.Proofs.Ytanaamlkiackbaa

/-
  No cell of these rows narrows 'for every input' (looked for: loops, veiled, ifaces, maps, wideKeys, modest, calm, conditions, laid).
  DERIVED. THE GIVEN ROWS OF THIS SEAT. 5 by the template 'for every input the law returns true; each argument reads behind the call as it read before'; 0 by the template 'total and deterministic' (their statements: YtgflhgjigfpgiaaTotals.lean).
  GIVEN WITH THE SEED: the statements are not yours to turn. If you find one false, say at which input.
  Laid BY PROGRAM, IN A SANDBOX (cutbox-rows.mjs): the forced cells as the released guide's own fill.sh prints them over the translation 93ac60ae02693cec… (all of the seat's roots in one cut). By AI agents, Wed Nov 11 2026. No macro, syntax, notation, axiom, sorry.
-/
import Derived.Test.YtgflhgjigfpgiaaChecked
import GoSem.Claim
import GoSem.ClaimJoined
import GoSem.ClaimMapViews
import Derived.JoinedTies
import Derived.KernelRfl
namespace Go.Proofs.Ytgflhgjigfpgiaa
/- THE CELL 'sum', in the pinned program and in every row, IS THE sha256 OF THE DUMP (.gsa) THAT YtgflhgjigfpgiaaProg.lean LOADS. Nothing in Lean hashes anything: it is a label: what it is worth is what the hold of that sum in a sandbox is worth. -/
noncomputable def Try.pinned : Pinned := { name := "ytgflhgjigfpgiaa", sum := "93ac60ae02693cecb3281baefae300664c77ab11417a0aeeadf7d207ad1a71f2", checked := Try.checked }
namespace Rows
def none {H : Type} : Left H := { results := [], args := [] }

/-- 'n011_70.FnD65ToD50MapsWhiteToWhite': WHATEVER THE INPUT: true; the input reads as it did. -/
def fnD65ToD50MapsWhiteToWhiteSpec : ChangeSpec := { name := "fnD65ToD50MapsWhiteToWhite", fn := fun _ => fun
  | [d] => { results := [.lit (.bool true)], args := [d] }
  | _ => none }
def fnD65ToD50MapsWhiteToWhiteRow : OpenClaim := { program := "ytgflhgjigfpgiaa", sum := "93ac60ae02693cecb3281baefae300664c77ab11417a0aeeadf7d207ad1a71f2", func := "github.com/evanw/esbuild/n011_70.FnD65ToD50MapsWhiteToWhite", spec := "fnD65ToD50MapsWhiteToWhite", apart := false }
def FnD65ToD50MapsWhiteToWhiteSaid : Prop := fnD65ToD50MapsWhiteToWhiteRow.holds Try.pinned (OpenSpec.ofChange fnD65ToD50MapsWhiteToWhiteSpec)

/-- ITS FALSE NEIGHBOUR: 'it returns false'. Refute it at one input. -/
def fnD65ToD50MapsWhiteToWhiteWrong : ChangeSpec := { name := "fnD65ToD50MapsWhiteToWhite", fn := fun _ => fun
  | [d] => { results := [.lit (.bool false)], args := [d] }
  | _ => none }
def FnD65ToD50MapsWhiteToWhiteWrongFalsely : Prop := fnD65ToD50MapsWhiteToWhiteRow.holds Try.pinned (OpenSpec.ofChange fnD65ToD50MapsWhiteToWhiteWrong)

/-- 'n011_225.FnXyzToLinSrgbInvertsLinSrgbToXyz': WHATEVER THE INPUT: true; the input reads as it did. -/
def fnXyzToLinSrgbInvertsLinSrgbToXyzSpec : ChangeSpec := { name := "fnXyzToLinSrgbInvertsLinSrgbToXyz", fn := fun _ => fun
  | [d1, d2, d3] => { results := [.lit (.bool true)], args := [d1, d2, d3] }
  | _ => none }
def fnXyzToLinSrgbInvertsLinSrgbToXyzRow : OpenClaim := { program := "ytgflhgjigfpgiaa", sum := "93ac60ae02693cecb3281baefae300664c77ab11417a0aeeadf7d207ad1a71f2", func := "github.com/evanw/esbuild/n011_225.FnXyzToLinSrgbInvertsLinSrgbToXyz", spec := "fnXyzToLinSrgbInvertsLinSrgbToXyz", apart := false }
def FnXyzToLinSrgbInvertsLinSrgbToXyzSaid : Prop := fnXyzToLinSrgbInvertsLinSrgbToXyzRow.holds Try.pinned (OpenSpec.ofChange fnXyzToLinSrgbInvertsLinSrgbToXyzSpec)

/-- ITS FALSE NEIGHBOUR: 'it returns false'. Refute it at one input. -/
def fnXyzToLinSrgbInvertsLinSrgbToXyzWrong : ChangeSpec := { name := "fnXyzToLinSrgbInvertsLinSrgbToXyz", fn := fun _ => fun
  | [d1, d2, d3] => { results := [.lit (.bool false)], args := [d1, d2, d3] }
  | _ => none }
def FnXyzToLinSrgbInvertsLinSrgbToXyzWrongFalsely : Prop := fnXyzToLinSrgbInvertsLinSrgbToXyzRow.holds Try.pinned (OpenSpec.ofChange fnXyzToLinSrgbInvertsLinSrgbToXyzWrong)

/-- 'n011_83.FnXyzToLinP3IsInverseOfLinP3ToXyz': WHATEVER THE INPUT: true; the input reads as it did. -/
def fnXyzToLinP3IsInverseOfLinP3ToXyzSpec : ChangeSpec := { name := "fnXyzToLinP3IsInverseOfLinP3ToXyz", fn := fun _ => fun
  | [d1, d2, d3] => { results := [.lit (.bool true)], args := [d1, d2, d3] }
  | _ => none }
def fnXyzToLinP3IsInverseOfLinP3ToXyzRow : OpenClaim := { program := "ytgflhgjigfpgiaa", sum := "93ac60ae02693cecb3281baefae300664c77ab11417a0aeeadf7d207ad1a71f2", func := "github.com/evanw/esbuild/n011_83.FnXyzToLinP3IsInverseOfLinP3ToXyz", spec := "fnXyzToLinP3IsInverseOfLinP3ToXyz", apart := false }
def FnXyzToLinP3IsInverseOfLinP3ToXyzSaid : Prop := fnXyzToLinP3IsInverseOfLinP3ToXyzRow.holds Try.pinned (OpenSpec.ofChange fnXyzToLinP3IsInverseOfLinP3ToXyzSpec)

/-- ITS FALSE NEIGHBOUR: 'it returns false'. Refute it at one input. -/
def fnXyzToLinP3IsInverseOfLinP3ToXyzWrong : ChangeSpec := { name := "fnXyzToLinP3IsInverseOfLinP3ToXyz", fn := fun _ => fun
  | [d1, d2, d3] => { results := [.lit (.bool false)], args := [d1, d2, d3] }
  | _ => none }
def FnXyzToLinP3IsInverseOfLinP3ToXyzWrongFalsely : Prop := fnXyzToLinP3IsInverseOfLinP3ToXyzRow.holds Try.pinned (OpenSpec.ofChange fnXyzToLinP3IsInverseOfLinP3ToXyzWrong)

/-- 'n011_226.FnXyzToLinA98rgbIsUndoneByLinA98rgbToXyz': WHATEVER THE INPUT: true; the input reads as it did. -/
def fnXyzToLinA98rgbIsUndoneByLinA98rgbToXyzSpec : ChangeSpec := { name := "fnXyzToLinA98rgbIsUndoneByLinA98rgbToXyz", fn := fun _ => fun
  | [d1, d2, d3] => { results := [.lit (.bool true)], args := [d1, d2, d3] }
  | _ => none }
def fnXyzToLinA98rgbIsUndoneByLinA98rgbToXyzRow : OpenClaim := { program := "ytgflhgjigfpgiaa", sum := "93ac60ae02693cecb3281baefae300664c77ab11417a0aeeadf7d207ad1a71f2", func := "github.com/evanw/esbuild/n011_226.FnXyzToLinA98rgbIsUndoneByLinA98rgbToXyz", spec := "fnXyzToLinA98rgbIsUndoneByLinA98rgbToXyz", apart := false }
def FnXyzToLinA98rgbIsUndoneByLinA98rgbToXyzSaid : Prop := fnXyzToLinA98rgbIsUndoneByLinA98rgbToXyzRow.holds Try.pinned (OpenSpec.ofChange fnXyzToLinA98rgbIsUndoneByLinA98rgbToXyzSpec)

/-- ITS FALSE NEIGHBOUR: 'it returns false'. Refute it at one input. -/
def fnXyzToLinA98rgbIsUndoneByLinA98rgbToXyzWrong : ChangeSpec := { name := "fnXyzToLinA98rgbIsUndoneByLinA98rgbToXyz", fn := fun _ => fun
  | [d1, d2, d3] => { results := [.lit (.bool false)], args := [d1, d2, d3] }
  | _ => none }
def FnXyzToLinA98rgbIsUndoneByLinA98rgbToXyzWrongFalsely : Prop := fnXyzToLinA98rgbIsUndoneByLinA98rgbToXyzRow.holds Try.pinned (OpenSpec.ofChange fnXyzToLinA98rgbIsUndoneByLinA98rgbToXyzWrong)

/-- 'n011_293.FnXyzToLinProphotoInvertsForwardAndMapsD50WhiteToGray': WHATEVER THE INPUT: true; the input reads as it did. -/
def fnXyzToLinProphotoInvertsForwardAndMapsD50WhiteToGraySpec : ChangeSpec := { name := "fnXyzToLinProphotoInvertsForwardAndMapsD50WhiteToGray", fn := fun _ => fun
  | [d1, d2, d3, d4] => { results := [.lit (.bool true)], args := [d1, d2, d3, d4] }
  | _ => none }
def fnXyzToLinProphotoInvertsForwardAndMapsD50WhiteToGrayRow : OpenClaim := { program := "ytgflhgjigfpgiaa", sum := "93ac60ae02693cecb3281baefae300664c77ab11417a0aeeadf7d207ad1a71f2", func := "github.com/evanw/esbuild/n011_293.FnXyzToLinProphotoInvertsForwardAndMapsD50WhiteToGray", spec := "fnXyzToLinProphotoInvertsForwardAndMapsD50WhiteToGray", apart := false }
def FnXyzToLinProphotoInvertsForwardAndMapsD50WhiteToGraySaid : Prop := fnXyzToLinProphotoInvertsForwardAndMapsD50WhiteToGrayRow.holds Try.pinned (OpenSpec.ofChange fnXyzToLinProphotoInvertsForwardAndMapsD50WhiteToGraySpec)

/-- ITS FALSE NEIGHBOUR: 'it returns false'. Refute it at one input. -/
def fnXyzToLinProphotoInvertsForwardAndMapsD50WhiteToGrayWrong : ChangeSpec := { name := "fnXyzToLinProphotoInvertsForwardAndMapsD50WhiteToGray", fn := fun _ => fun
  | [d1, d2, d3, d4] => { results := [.lit (.bool false)], args := [d1, d2, d3, d4] }
  | _ => none }
def FnXyzToLinProphotoInvertsForwardAndMapsD50WhiteToGrayWrongFalsely : Prop := fnXyzToLinProphotoInvertsForwardAndMapsD50WhiteToGrayRow.holds Try.pinned (OpenSpec.ofChange fnXyzToLinProphotoInvertsForwardAndMapsD50WhiteToGrayWrong)

/- THE SECOND FORM. 'bulk': how many values and letters a reading holds, each counted each time it is reached (what is shared counts as often as it is met; a slice's spare places count too). A statement '..UptoSaid' is the law's where the arguments, and the package variables that the reading takes, are together of bulk at most 1048576: NARROWER than '..Said'. Prove '..Said' where nothing that the law and all that it calls make is longer than what came in: it says more and counts as full. Else prove '..UptoSaid'. A law counts once. -/
mutual
def uptoBulk {H : Type} : DataW H → Nat
  | .lit (.string bytes) => bytes.length + 1
  | .lit _ => 1
  | .nil => 1
  | .ptr d => uptoBulk d + 1
  | .slice elems spare => uptoBulkAll elems + uptoBulkAll spare + 1
  | .agg parts => uptoBulkAll parts + 1
  | .iface _ d => uptoBulk d + 1
  | .map entries => uptoBulkEntries entries + 1
  | .held _ => 1
def uptoBulkAll {H : Type} : List (DataW H) → Nat
  | [] => 0
  | d :: r => uptoBulk d + uptoBulkAll r
def uptoBulkEntries {H : Type} : List (Lit × DataW H) → Nat
  | [] => 0
  | x :: r => uptoBulkEntry x + uptoBulkEntries r
def uptoBulkEntry {H : Type} : Lit × DataW H → Nat
  | (.string bytes, d) => bytes.length + uptoBulk d + 1
  | (_, d) => uptoBulk d + 1
 end
def uptoSmall : (H : Type) → List (DataW H) → Bool := fun _ ds => decide (uptoBulkAll ds ≤ 1048576)
def OpenSpec.upto (s : _root_.Go.ChangeSpec) : _root_.Go.OpenSpec := { _root_.Go.OpenSpec.ofChange s with cond := some uptoSmall }

/-- 'n011_70.FnD65ToD50MapsWhiteToWhite', WHERE WHAT IT READS IS OF BULK AT MOST 1048576: true; the input reads as it did. -/
def fnD65ToD50MapsWhiteToWhiteUptoRow : OpenClaim := { program := "ytgflhgjigfpgiaa", sum := "93ac60ae02693cecb3281baefae300664c77ab11417a0aeeadf7d207ad1a71f2", func := "github.com/evanw/esbuild/n011_70.FnD65ToD50MapsWhiteToWhite", spec := "fnD65ToD50MapsWhiteToWhite", apart := false, narrowed := true }
def FnD65ToD50MapsWhiteToWhiteUptoSaid : Prop := fnD65ToD50MapsWhiteToWhiteUptoRow.holds Try.pinned (OpenSpec.upto fnD65ToD50MapsWhiteToWhiteSpec)

/-- 'n011_225.FnXyzToLinSrgbInvertsLinSrgbToXyz', WHERE WHAT IT READS IS OF BULK AT MOST 1048576: true; the input reads as it did. -/
def fnXyzToLinSrgbInvertsLinSrgbToXyzUptoRow : OpenClaim := { program := "ytgflhgjigfpgiaa", sum := "93ac60ae02693cecb3281baefae300664c77ab11417a0aeeadf7d207ad1a71f2", func := "github.com/evanw/esbuild/n011_225.FnXyzToLinSrgbInvertsLinSrgbToXyz", spec := "fnXyzToLinSrgbInvertsLinSrgbToXyz", apart := false, narrowed := true }
def FnXyzToLinSrgbInvertsLinSrgbToXyzUptoSaid : Prop := fnXyzToLinSrgbInvertsLinSrgbToXyzUptoRow.holds Try.pinned (OpenSpec.upto fnXyzToLinSrgbInvertsLinSrgbToXyzSpec)

/-- 'n011_83.FnXyzToLinP3IsInverseOfLinP3ToXyz', WHERE WHAT IT READS IS OF BULK AT MOST 1048576: true; the input reads as it did. -/
def fnXyzToLinP3IsInverseOfLinP3ToXyzUptoRow : OpenClaim := { program := "ytgflhgjigfpgiaa", sum := "93ac60ae02693cecb3281baefae300664c77ab11417a0aeeadf7d207ad1a71f2", func := "github.com/evanw/esbuild/n011_83.FnXyzToLinP3IsInverseOfLinP3ToXyz", spec := "fnXyzToLinP3IsInverseOfLinP3ToXyz", apart := false, narrowed := true }
def FnXyzToLinP3IsInverseOfLinP3ToXyzUptoSaid : Prop := fnXyzToLinP3IsInverseOfLinP3ToXyzUptoRow.holds Try.pinned (OpenSpec.upto fnXyzToLinP3IsInverseOfLinP3ToXyzSpec)

/-- 'n011_226.FnXyzToLinA98rgbIsUndoneByLinA98rgbToXyz', WHERE WHAT IT READS IS OF BULK AT MOST 1048576: true; the input reads as it did. -/
def fnXyzToLinA98rgbIsUndoneByLinA98rgbToXyzUptoRow : OpenClaim := { program := "ytgflhgjigfpgiaa", sum := "93ac60ae02693cecb3281baefae300664c77ab11417a0aeeadf7d207ad1a71f2", func := "github.com/evanw/esbuild/n011_226.FnXyzToLinA98rgbIsUndoneByLinA98rgbToXyz", spec := "fnXyzToLinA98rgbIsUndoneByLinA98rgbToXyz", apart := false, narrowed := true }
def FnXyzToLinA98rgbIsUndoneByLinA98rgbToXyzUptoSaid : Prop := fnXyzToLinA98rgbIsUndoneByLinA98rgbToXyzUptoRow.holds Try.pinned (OpenSpec.upto fnXyzToLinA98rgbIsUndoneByLinA98rgbToXyzSpec)

/-- 'n011_293.FnXyzToLinProphotoInvertsForwardAndMapsD50WhiteToGray', WHERE WHAT IT READS IS OF BULK AT MOST 1048576: true; the input reads as it did. -/
def fnXyzToLinProphotoInvertsForwardAndMapsD50WhiteToGrayUptoRow : OpenClaim := { program := "ytgflhgjigfpgiaa", sum := "93ac60ae02693cecb3281baefae300664c77ab11417a0aeeadf7d207ad1a71f2", func := "github.com/evanw/esbuild/n011_293.FnXyzToLinProphotoInvertsForwardAndMapsD50WhiteToGray", spec := "fnXyzToLinProphotoInvertsForwardAndMapsD50WhiteToGray", apart := false, narrowed := true }
def FnXyzToLinProphotoInvertsForwardAndMapsD50WhiteToGrayUptoSaid : Prop := fnXyzToLinProphotoInvertsForwardAndMapsD50WhiteToGrayUptoRow.holds Try.pinned (OpenSpec.upto fnXyzToLinProphotoInvertsForwardAndMapsD50WhiteToGraySpec)

end Rows
end Go.Proofs.Ytgflhgjigfpgiaa

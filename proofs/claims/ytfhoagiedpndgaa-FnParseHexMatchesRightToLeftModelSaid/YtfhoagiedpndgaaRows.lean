/-
  No cell of these rows narrows 'for every input' (looked for: loops, veiled, ifaces, maps, wideKeys, modest, calm, conditions, laid).
  DERIVED. THE GIVEN ROWS OF THIS SEAT. 6 by the template 'for every input the law returns true; each argument reads behind the call as it read before'; 0 by the template 'total and deterministic' (their statements: YtfhoagiedpndgaaTotals.lean).
  GIVEN WITH THE SEED: the statements are not yours to turn. If you find one false, say at which input.
  Laid BY PROGRAM, IN A SANDBOX (cutbox-rows.mjs): the forced cells as the released guide's own fill.sh prints them over the translation 05de68e70edc0e8c… (all of the seat's roots in one cut). By AI agents, Wed Nov 11 2026. No macro, syntax, notation, axiom, sorry.
-/
import Derived.Test.YtfhoagiedpndgaaChecked
import GoSem.Claim
import GoSem.ClaimJoined
import GoSem.ClaimMapViews
import Derived.JoinedTies
import Derived.KernelRfl
namespace Go.Proofs.Ytfhoagiedpndgaa
/- THE CELL 'sum', in the pinned program and in every row, IS THE sha256 OF THE DUMP (.gsa) THAT YtfhoagiedpndgaaProg.lean LOADS. Nothing in Lean hashes anything: it is a label: what it is worth is what the hold of that sum in a sandbox is worth. -/
noncomputable def Try.pinned : Pinned := { name := "ytfhoagiedpndgaa", sum := "05de68e70edc0e8c000020a1f80a4d17fd4b073ff83599f1be9f1885e8ce7158", checked := Try.checked }
namespace Rows
def none {H : Type} : Left H := { results := [], args := [] }

/-- 'n011_130.FnPackRGBAInvertsByteFractions': WHATEVER THE INPUT: true; the input reads as it did. -/
def fnPackRGBAInvertsByteFractionsSpec : ChangeSpec := { name := "fnPackRGBAInvertsByteFractions", fn := fun _ => fun
  | [d1, d2, d3, d4] => { results := [.lit (.bool true)], args := [d1, d2, d3, d4] }
  | _ => none }
def fnPackRGBAInvertsByteFractionsRow : OpenClaim := { program := "ytfhoagiedpndgaa", sum := "05de68e70edc0e8c000020a1f80a4d17fd4b073ff83599f1be9f1885e8ce7158", func := "github.com/evanw/esbuild/n011_130.FnPackRGBAInvertsByteFractions", spec := "fnPackRGBAInvertsByteFractions", inPlace := ["math.Float64bits", "math.Float64frombits"], apart := false }
def FnPackRGBAInvertsByteFractionsSaid : Prop := fnPackRGBAInvertsByteFractionsRow.holds Try.pinned (OpenSpec.ofChange fnPackRGBAInvertsByteFractionsSpec)

/-- ITS FALSE NEIGHBOUR: 'it returns false'. Refute it at one input. -/
def fnPackRGBAInvertsByteFractionsWrong : ChangeSpec := { name := "fnPackRGBAInvertsByteFractions", fn := fun _ => fun
  | [d1, d2, d3, d4] => { results := [.lit (.bool false)], args := [d1, d2, d3, d4] }
  | _ => none }
def FnPackRGBAInvertsByteFractionsWrongFalsely : Prop := fnPackRGBAInvertsByteFractionsRow.holds Try.pinned (OpenSpec.ofChange fnPackRGBAInvertsByteFractionsWrong)

/-- 'n011_84.FnExpandHexDoublesEachNibble': WHATEVER THE INPUT: true; the input reads as it did. -/
def fnExpandHexDoublesEachNibbleSpec : ChangeSpec := { name := "fnExpandHexDoublesEachNibble", fn := fun _ => fun
  | [d] => { results := [.lit (.bool true)], args := [d] }
  | _ => none }
def fnExpandHexDoublesEachNibbleRow : OpenClaim := { program := "ytfhoagiedpndgaa", sum := "05de68e70edc0e8c000020a1f80a4d17fd4b073ff83599f1be9f1885e8ce7158", func := "github.com/evanw/esbuild/n011_84.FnExpandHexDoublesEachNibble", spec := "fnExpandHexDoublesEachNibble", apart := false }
def FnExpandHexDoublesEachNibbleSaid : Prop := fnExpandHexDoublesEachNibbleRow.holds Try.pinned (OpenSpec.ofChange fnExpandHexDoublesEachNibbleSpec)

/-- ITS FALSE NEIGHBOUR: 'it returns false'. Refute it at one input. -/
def fnExpandHexDoublesEachNibbleWrong : ChangeSpec := { name := "fnExpandHexDoublesEachNibble", fn := fun _ => fun
  | [d] => { results := [.lit (.bool false)], args := [d] }
  | _ => none }
def FnExpandHexDoublesEachNibbleWrongFalsely : Prop := fnExpandHexDoublesEachNibbleRow.holds Try.pinned (OpenSpec.ofChange fnExpandHexDoublesEachNibbleWrong)

/-- 'n011_199.FnHexChannelsRebuildWord': WHATEVER THE INPUT: true; the input reads as it did. -/
def fnHexChannelsRebuildWordSpec : ChangeSpec := { name := "fnHexChannelsRebuildWord", fn := fun _ => fun
  | [d] => { results := [.lit (.bool true)], args := [d] }
  | _ => none }
def fnHexChannelsRebuildWordRow : OpenClaim := { program := "ytfhoagiedpndgaa", sum := "05de68e70edc0e8c000020a1f80a4d17fd4b073ff83599f1be9f1885e8ce7158", func := "github.com/evanw/esbuild/n011_199.FnHexChannelsRebuildWord", spec := "fnHexChannelsRebuildWord", apart := false }
def FnHexChannelsRebuildWordSaid : Prop := fnHexChannelsRebuildWordRow.holds Try.pinned (OpenSpec.ofChange fnHexChannelsRebuildWordSpec)

/-- ITS FALSE NEIGHBOUR: 'it returns false'. Refute it at one input. -/
def fnHexChannelsRebuildWordWrong : ChangeSpec := { name := "fnHexChannelsRebuildWord", fn := fun _ => fun
  | [d] => { results := [.lit (.bool false)], args := [d] }
  | _ => none }
def FnHexChannelsRebuildWordWrongFalsely : Prop := fnHexChannelsRebuildWordRow.holds Try.pinned (OpenSpec.ofChange fnHexChannelsRebuildWordWrong)

/-- 'n011_282.FnIsSafeWithIsPartialEquivalence': WHATEVER THE INPUT: true; the input reads as it did. -/
def fnIsSafeWithIsPartialEquivalenceSpec : ChangeSpec := { name := "fnIsSafeWithIsPartialEquivalence", fn := fun _ => fun
  | [d1, d2, d3, d4, d5, d6] => { results := [.lit (.bool true)], args := [d1, d2, d3, d4, d5, d6] }
  | _ => none }
def fnIsSafeWithIsPartialEquivalenceRow : OpenClaim := { program := "ytfhoagiedpndgaa", sum := "05de68e70edc0e8c000020a1f80a4d17fd4b073ff83599f1be9f1885e8ce7158", func := "github.com/evanw/esbuild/n011_282.FnIsSafeWithIsPartialEquivalence", spec := "fnIsSafeWithIsPartialEquivalence", apart := false }
def FnIsSafeWithIsPartialEquivalenceSaid : Prop := fnIsSafeWithIsPartialEquivalenceRow.holds Try.pinned (OpenSpec.ofChange fnIsSafeWithIsPartialEquivalenceSpec)

/-- ITS FALSE NEIGHBOUR: 'it returns false'. Refute it at one input. -/
def fnIsSafeWithIsPartialEquivalenceWrong : ChangeSpec := { name := "fnIsSafeWithIsPartialEquivalence", fn := fun _ => fun
  | [d1, d2, d3, d4, d5, d6] => { results := [.lit (.bool false)], args := [d1, d2, d3, d4, d5, d6] }
  | _ => none }
def FnIsSafeWithIsPartialEquivalenceWrongFalsely : Prop := fnIsSafeWithIsPartialEquivalenceRow.holds Try.pinned (OpenSpec.ofChange fnIsSafeWithIsPartialEquivalenceWrong)

/-- 'n011_84.FnParseHexMatchesRightToLeftModel': WHATEVER THE INPUT: true; the input reads as it did. -/
def fnParseHexMatchesRightToLeftModelSpec : ChangeSpec := { name := "fnParseHexMatchesRightToLeftModel", fn := fun _ => fun
  | [d] => { results := [.lit (.bool true)], args := [d] }
  | _ => none }
def fnParseHexMatchesRightToLeftModelRow : OpenClaim := { program := "ytfhoagiedpndgaa", sum := "05de68e70edc0e8c000020a1f80a4d17fd4b073ff83599f1be9f1885e8ce7158", func := "github.com/evanw/esbuild/n011_84.FnParseHexMatchesRightToLeftModel", spec := "fnParseHexMatchesRightToLeftModel", apart := false }
def FnParseHexMatchesRightToLeftModelSaid : Prop := fnParseHexMatchesRightToLeftModelRow.holds Try.pinned (OpenSpec.ofChange fnParseHexMatchesRightToLeftModelSpec)

/-- ITS FALSE NEIGHBOUR: 'it returns false'. Refute it at one input. -/
def fnParseHexMatchesRightToLeftModelWrong : ChangeSpec := { name := "fnParseHexMatchesRightToLeftModel", fn := fun _ => fun
  | [d] => { results := [.lit (.bool false)], args := [d] }
  | _ => none }
def FnParseHexMatchesRightToLeftModelWrongFalsely : Prop := fnParseHexMatchesRightToLeftModelRow.holds Try.pinned (OpenSpec.ofChange fnParseHexMatchesRightToLeftModelWrong)

/-- 'n011_18.FnParseIntegerSpec': WHATEVER THE INPUT: true; the input reads as it did. -/
def fnParseIntegerSpecSpec : ChangeSpec := { name := "fnParseIntegerSpec", fn := fun _ => fun
  | [d] => { results := [.lit (.bool true)], args := [d] }
  | _ => none }
def fnParseIntegerSpecRow : OpenClaim := { program := "ytfhoagiedpndgaa", sum := "05de68e70edc0e8c000020a1f80a4d17fd4b073ff83599f1be9f1885e8ce7158", func := "github.com/evanw/esbuild/n011_18.FnParseIntegerSpec", spec := "fnParseIntegerSpec", apart := false }
def FnParseIntegerSpecSaid : Prop := fnParseIntegerSpecRow.holds Try.pinned (OpenSpec.ofChange fnParseIntegerSpecSpec)

/-- ITS FALSE NEIGHBOUR: 'it returns false'. Refute it at one input. -/
def fnParseIntegerSpecWrong : ChangeSpec := { name := "fnParseIntegerSpec", fn := fun _ => fun
  | [d] => { results := [.lit (.bool false)], args := [d] }
  | _ => none }
def FnParseIntegerSpecWrongFalsely : Prop := fnParseIntegerSpecRow.holds Try.pinned (OpenSpec.ofChange fnParseIntegerSpecWrong)

/- THE SECOND FORM. 'bulk': how many values and letters a reading holds, each counted each time it is reached (what is shared counts as often as it is met; a slice's spare places count too). A statement '..UptoSaid' is the law's where the arguments, and the package variables that the reading takes, are together of bulk at most 1048576: NARROWER than '..Said'. Prove '..Said' where nothing that the law and all that it calls make is longer than what came in: it says more and counts as full. Else prove '..UptoSaid'. A law counts once. -/
mutual
def uptoBulk {H : Type} : DataW H → Nat
  | .lit (.string bytes) => bytes.length + 1
  | .lit _ => 1
  | .nil => 1
  | .ptr d => uptoBulk d + 1
  | .slice elems spare => uptoBulkAll elems + uptoBulkAll spare + 1
  | .agg parts => uptoBulkAll parts + 1
  | .iface _ d => uptoBulk d + 1
  | .map entries => uptoBulkEntries entries + 1
  | .held _ => 1
def uptoBulkAll {H : Type} : List (DataW H) → Nat
  | [] => 0
  | d :: r => uptoBulk d + uptoBulkAll r
def uptoBulkEntries {H : Type} : List (Lit × DataW H) → Nat
  | [] => 0
  | x :: r => uptoBulkEntry x + uptoBulkEntries r
def uptoBulkEntry {H : Type} : Lit × DataW H → Nat
  | (.string bytes, d) => bytes.length + uptoBulk d + 1
  | (_, d) => uptoBulk d + 1
 end
def uptoSmall : (H : Type) → List (DataW H) → Bool := fun _ ds => decide (uptoBulkAll ds ≤ 1048576)
def OpenSpec.upto (s : _root_.Go.ChangeSpec) : _root_.Go.OpenSpec := { _root_.Go.OpenSpec.ofChange s with cond := some uptoSmall }

/-- 'n011_130.FnPackRGBAInvertsByteFractions', WHERE WHAT IT READS IS OF BULK AT MOST 1048576: true; the input reads as it did. -/
def fnPackRGBAInvertsByteFractionsUptoRow : OpenClaim := { program := "ytfhoagiedpndgaa", sum := "05de68e70edc0e8c000020a1f80a4d17fd4b073ff83599f1be9f1885e8ce7158", func := "github.com/evanw/esbuild/n011_130.FnPackRGBAInvertsByteFractions", spec := "fnPackRGBAInvertsByteFractions", inPlace := ["math.Float64bits", "math.Float64frombits"], apart := false, narrowed := true }
def FnPackRGBAInvertsByteFractionsUptoSaid : Prop := fnPackRGBAInvertsByteFractionsUptoRow.holds Try.pinned (OpenSpec.upto fnPackRGBAInvertsByteFractionsSpec)

/-- 'n011_84.FnExpandHexDoublesEachNibble', WHERE WHAT IT READS IS OF BULK AT MOST 1048576: true; the input reads as it did. -/
def fnExpandHexDoublesEachNibbleUptoRow : OpenClaim := { program := "ytfhoagiedpndgaa", sum := "05de68e70edc0e8c000020a1f80a4d17fd4b073ff83599f1be9f1885e8ce7158", func := "github.com/evanw/esbuild/n011_84.FnExpandHexDoublesEachNibble", spec := "fnExpandHexDoublesEachNibble", apart := false, narrowed := true }
def FnExpandHexDoublesEachNibbleUptoSaid : Prop := fnExpandHexDoublesEachNibbleUptoRow.holds Try.pinned (OpenSpec.upto fnExpandHexDoublesEachNibbleSpec)

/-- 'n011_199.FnHexChannelsRebuildWord', WHERE WHAT IT READS IS OF BULK AT MOST 1048576: true; the input reads as it did. -/
def fnHexChannelsRebuildWordUptoRow : OpenClaim := { program := "ytfhoagiedpndgaa", sum := "05de68e70edc0e8c000020a1f80a4d17fd4b073ff83599f1be9f1885e8ce7158", func := "github.com/evanw/esbuild/n011_199.FnHexChannelsRebuildWord", spec := "fnHexChannelsRebuildWord", apart := false, narrowed := true }
def FnHexChannelsRebuildWordUptoSaid : Prop := fnHexChannelsRebuildWordUptoRow.holds Try.pinned (OpenSpec.upto fnHexChannelsRebuildWordSpec)

/-- 'n011_282.FnIsSafeWithIsPartialEquivalence', WHERE WHAT IT READS IS OF BULK AT MOST 1048576: true; the input reads as it did. -/
def fnIsSafeWithIsPartialEquivalenceUptoRow : OpenClaim := { program := "ytfhoagiedpndgaa", sum := "05de68e70edc0e8c000020a1f80a4d17fd4b073ff83599f1be9f1885e8ce7158", func := "github.com/evanw/esbuild/n011_282.FnIsSafeWithIsPartialEquivalence", spec := "fnIsSafeWithIsPartialEquivalence", apart := false, narrowed := true }
def FnIsSafeWithIsPartialEquivalenceUptoSaid : Prop := fnIsSafeWithIsPartialEquivalenceUptoRow.holds Try.pinned (OpenSpec.upto fnIsSafeWithIsPartialEquivalenceSpec)

/-- 'n011_84.FnParseHexMatchesRightToLeftModel', WHERE WHAT IT READS IS OF BULK AT MOST 1048576: true; the input reads as it did. -/
def fnParseHexMatchesRightToLeftModelUptoRow : OpenClaim := { program := "ytfhoagiedpndgaa", sum := "05de68e70edc0e8c000020a1f80a4d17fd4b073ff83599f1be9f1885e8ce7158", func := "github.com/evanw/esbuild/n011_84.FnParseHexMatchesRightToLeftModel", spec := "fnParseHexMatchesRightToLeftModel", apart := false, narrowed := true }
def FnParseHexMatchesRightToLeftModelUptoSaid : Prop := fnParseHexMatchesRightToLeftModelUptoRow.holds Try.pinned (OpenSpec.upto fnParseHexMatchesRightToLeftModelSpec)

/-- 'n011_18.FnParseIntegerSpec', WHERE WHAT IT READS IS OF BULK AT MOST 1048576: true; the input reads as it did. -/
def fnParseIntegerSpecUptoRow : OpenClaim := { program := "ytfhoagiedpndgaa", sum := "05de68e70edc0e8c000020a1f80a4d17fd4b073ff83599f1be9f1885e8ce7158", func := "github.com/evanw/esbuild/n011_18.FnParseIntegerSpec", spec := "fnParseIntegerSpec", apart := false, narrowed := true }
def FnParseIntegerSpecUptoSaid : Prop := fnParseIntegerSpecUptoRow.holds Try.pinned (OpenSpec.upto fnParseIntegerSpecSpec)

end Rows
end Go.Proofs.Ytfhoagiedpndgaa

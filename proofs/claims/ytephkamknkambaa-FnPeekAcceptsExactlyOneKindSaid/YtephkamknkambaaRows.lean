/-
  No cell of these rows narrows 'for every input' (looked for: loops, veiled, ifaces, maps, wideKeys, modest, calm, conditions, laid).
  DERIVED. THE GIVEN ROWS OF THIS SEAT. 3 by the template 'for every input the law returns true; each argument reads behind the call as it read before'; 0 by the template 'total and deterministic' (their statements: YtephkamknkambaaTotals.lean).
  GIVEN WITH THE SEED: the statements are not yours to turn. If you find one false, say at which input.
  Laid BY PROGRAM, IN A SANDBOX (cutbox-rows.mjs): the forced cells as the released guide's own fill.sh prints them over the translation f07cf88b0a560da6… (all of the seat's roots in one cut). By AI agents, Wed Nov 11 2026. No macro, syntax, notation, axiom, sorry.
-/
import Derived.Test.YtephkamknkambaaChecked
import GoSem.Claim
import GoSem.ClaimJoined
import GoSem.ClaimMapViews
import Derived.JoinedTies
import Derived.KernelRfl
namespace Go.Proofs.Ytephkamknkambaa
/- THE CELL 'sum', in the pinned program and in every row, IS THE sha256 OF THE DUMP (.gsa) THAT YtephkamknkambaaProg.lean LOADS. Nothing in Lean hashes anything: it is a label: what it is worth is what the hold of that sum in a sandbox is worth. -/
noncomputable def Try.pinned : Pinned := { name := "ytephkamknkambaa", sum := "f07cf88b0a560da6a0163eab5793f63cd4414a9dfdf7898a86c51916814d3df5", checked := Try.checked }
namespace Rows
def none {H : Type} : Left H := { results := [], args := [] }

/-- 'n011_283.FnPeekAcceptsExactlyOneKind': WHATEVER THE INPUT: true; the input reads as it did. -/
def fnPeekAcceptsExactlyOneKindSpec : ChangeSpec := { name := "fnPeekAcceptsExactlyOneKind", fn := fun _ => fun
  | [d1, d2, d3, d4, d5] => { results := [.lit (.bool true)], args := [d1, d2, d3, d4, d5] }
  | _ => none }
def fnPeekAcceptsExactlyOneKindRow : OpenClaim := { program := "ytephkamknkambaa", sum := "f07cf88b0a560da6a0163eab5793f63cd4414a9dfdf7898a86c51916814d3df5", func := "github.com/evanw/esbuild/n011_283.FnPeekAcceptsExactlyOneKind", spec := "fnPeekAcceptsExactlyOneKind", plainKeys := false, apart := false }
def FnPeekAcceptsExactlyOneKindSaid : Prop := fnPeekAcceptsExactlyOneKindRow.holds Try.pinned (OpenSpec.ofChange fnPeekAcceptsExactlyOneKindSpec)

/-- ITS FALSE NEIGHBOUR: 'it returns false'. Refute it at one input. -/
def fnPeekAcceptsExactlyOneKindWrong : ChangeSpec := { name := "fnPeekAcceptsExactlyOneKind", fn := fun _ => fun
  | [d1, d2, d3, d4, d5] => { results := [.lit (.bool false)], args := [d1, d2, d3, d4, d5] }
  | _ => none }
def FnPeekAcceptsExactlyOneKindWrongFalsely : Prop := fnPeekAcceptsExactlyOneKindRow.holds Try.pinned (OpenSpec.ofChange fnPeekAcceptsExactlyOneKindWrong)

/-- 'n011_101.FnAdvanceScanVisitsEveryToken': WHATEVER THE INPUT: true; the input reads as it did. -/
def fnAdvanceScanVisitsEveryTokenSpec : ChangeSpec := { name := "fnAdvanceScanVisitsEveryToken", fn := fun _ => fun
  | [d1, d2, d3, d4, d5] => { results := [.lit (.bool true)], args := [d1, d2, d3, d4, d5] }
  | _ => none }
def fnAdvanceScanVisitsEveryTokenRow : OpenClaim := { program := "ytephkamknkambaa", sum := "f07cf88b0a560da6a0163eab5793f63cd4414a9dfdf7898a86c51916814d3df5", func := "github.com/evanw/esbuild/n011_101.FnAdvanceScanVisitsEveryToken", spec := "fnAdvanceScanVisitsEveryToken", plainKeys := false, apart := false }
def FnAdvanceScanVisitsEveryTokenSaid : Prop := fnAdvanceScanVisitsEveryTokenRow.holds Try.pinned (OpenSpec.ofChange fnAdvanceScanVisitsEveryTokenSpec)

/-- ITS FALSE NEIGHBOUR: 'it returns false'. Refute it at one input. -/
def fnAdvanceScanVisitsEveryTokenWrong : ChangeSpec := { name := "fnAdvanceScanVisitsEveryToken", fn := fun _ => fun
  | [d1, d2, d3, d4, d5] => { results := [.lit (.bool false)], args := [d1, d2, d3, d4, d5] }
  | _ => none }
def FnAdvanceScanVisitsEveryTokenWrongFalsely : Prop := fnAdvanceScanVisitsEveryTokenRow.holds Try.pinned (OpenSpec.ofChange fnAdvanceScanVisitsEveryTokenWrong)

/-- 'n011_101.FnAtReadsOnlyAndFlatPastEnd': WHATEVER THE INPUT: true; the input reads as it did. -/
def fnAtReadsOnlyAndFlatPastEndSpec : ChangeSpec := { name := "fnAtReadsOnlyAndFlatPastEnd", fn := fun _ => fun
  | [d1, d2, d3, d4, d5, d6, d7] => { results := [.lit (.bool true)], args := [d1, d2, d3, d4, d5, d6, d7] }
  | _ => none }
def fnAtReadsOnlyAndFlatPastEndRow : OpenClaim := { program := "ytephkamknkambaa", sum := "f07cf88b0a560da6a0163eab5793f63cd4414a9dfdf7898a86c51916814d3df5", func := "github.com/evanw/esbuild/n011_101.FnAtReadsOnlyAndFlatPastEnd", spec := "fnAtReadsOnlyAndFlatPastEnd", plainKeys := false, apart := false }
def FnAtReadsOnlyAndFlatPastEndSaid : Prop := fnAtReadsOnlyAndFlatPastEndRow.holds Try.pinned (OpenSpec.ofChange fnAtReadsOnlyAndFlatPastEndSpec)

/-- ITS FALSE NEIGHBOUR: 'it returns false'. Refute it at one input. -/
def fnAtReadsOnlyAndFlatPastEndWrong : ChangeSpec := { name := "fnAtReadsOnlyAndFlatPastEnd", fn := fun _ => fun
  | [d1, d2, d3, d4, d5, d6, d7] => { results := [.lit (.bool false)], args := [d1, d2, d3, d4, d5, d6, d7] }
  | _ => none }
def FnAtReadsOnlyAndFlatPastEndWrongFalsely : Prop := fnAtReadsOnlyAndFlatPastEndRow.holds Try.pinned (OpenSpec.ofChange fnAtReadsOnlyAndFlatPastEndWrong)

/- THE SECOND FORM. 'bulk': how many values and letters a reading holds, each counted each time it is reached (what is shared counts as often as it is met; a slice's spare places count too). A statement '..UptoSaid' is the law's where the arguments, and the package variables that the reading takes, are together of bulk at most 1048576: NARROWER than '..Said'. Prove '..Said' where nothing that the law and all that it calls make is longer than what came in: it says more and counts as full. Else prove '..UptoSaid'. A law counts once. -/
mutual
def uptoBulk {H : Type} : DataW H → Nat
  | .lit (.string bytes) => bytes.length + 1
  | .lit _ => 1
  | .nil => 1
  | .ptr d => uptoBulk d + 1
  | .slice elems spare => uptoBulkAll elems + uptoBulkAll spare + 1
  | .agg parts => uptoBulkAll parts + 1
  | .iface _ d => uptoBulk d + 1
  | .map entries => uptoBulkEntries entries + 1
  | .held _ => 1
def uptoBulkAll {H : Type} : List (DataW H) → Nat
  | [] => 0
  | d :: r => uptoBulk d + uptoBulkAll r
def uptoBulkEntries {H : Type} : List (Lit × DataW H) → Nat
  | [] => 0
  | x :: r => uptoBulkEntry x + uptoBulkEntries r
def uptoBulkEntry {H : Type} : Lit × DataW H → Nat
  | (.string bytes, d) => bytes.length + uptoBulk d + 1
  | (_, d) => uptoBulk d + 1
 end
def uptoSmall : (H : Type) → List (DataW H) → Bool := fun _ ds => decide (uptoBulkAll ds ≤ 1048576)
def OpenSpec.upto (s : _root_.Go.ChangeSpec) : _root_.Go.OpenSpec := { _root_.Go.OpenSpec.ofChange s with cond := some uptoSmall }

/-- 'n011_283.FnPeekAcceptsExactlyOneKind', WHERE WHAT IT READS IS OF BULK AT MOST 1048576: true; the input reads as it did. -/
def fnPeekAcceptsExactlyOneKindUptoRow : OpenClaim := { program := "ytephkamknkambaa", sum := "f07cf88b0a560da6a0163eab5793f63cd4414a9dfdf7898a86c51916814d3df5", func := "github.com/evanw/esbuild/n011_283.FnPeekAcceptsExactlyOneKind", spec := "fnPeekAcceptsExactlyOneKind", plainKeys := false, apart := false, narrowed := true }
def FnPeekAcceptsExactlyOneKindUptoSaid : Prop := fnPeekAcceptsExactlyOneKindUptoRow.holds Try.pinned (OpenSpec.upto fnPeekAcceptsExactlyOneKindSpec)

/-- 'n011_101.FnAdvanceScanVisitsEveryToken', WHERE WHAT IT READS IS OF BULK AT MOST 1048576: true; the input reads as it did. -/
def fnAdvanceScanVisitsEveryTokenUptoRow : OpenClaim := { program := "ytephkamknkambaa", sum := "f07cf88b0a560da6a0163eab5793f63cd4414a9dfdf7898a86c51916814d3df5", func := "github.com/evanw/esbuild/n011_101.FnAdvanceScanVisitsEveryToken", spec := "fnAdvanceScanVisitsEveryToken", plainKeys := false, apart := false, narrowed := true }
def FnAdvanceScanVisitsEveryTokenUptoSaid : Prop := fnAdvanceScanVisitsEveryTokenUptoRow.holds Try.pinned (OpenSpec.upto fnAdvanceScanVisitsEveryTokenSpec)

/-- 'n011_101.FnAtReadsOnlyAndFlatPastEnd', WHERE WHAT IT READS IS OF BULK AT MOST 1048576: true; the input reads as it did. -/
def fnAtReadsOnlyAndFlatPastEndUptoRow : OpenClaim := { program := "ytephkamknkambaa", sum := "f07cf88b0a560da6a0163eab5793f63cd4414a9dfdf7898a86c51916814d3df5", func := "github.com/evanw/esbuild/n011_101.FnAtReadsOnlyAndFlatPastEnd", spec := "fnAtReadsOnlyAndFlatPastEnd", plainKeys := false, apart := false, narrowed := true }
def FnAtReadsOnlyAndFlatPastEndUptoSaid : Prop := fnAtReadsOnlyAndFlatPastEndUptoRow.holds Try.pinned (OpenSpec.upto fnAtReadsOnlyAndFlatPastEndSpec)

end Rows
end Go.Proofs.Ytephkamknkambaa

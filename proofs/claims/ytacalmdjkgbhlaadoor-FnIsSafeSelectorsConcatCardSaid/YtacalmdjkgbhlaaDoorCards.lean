/-
  DERIVED. GIVEN WITH THE SEED: THE CARDS: each row of YtacalmdjkgbhlaaDoorRows.lean that lists a variable, with what it lists TIED to the program's text (the seventh form; the later family's looks); each row that meets fmt, with fmt's text TOLD by the authors' own Lean function (tested against real Go, not proved from fmt's source: count such statements apart). THE CARD IS WHAT COUNTS. Prove the row's statement (the work); the ties are given (YtacalmdjkgbhlaaDoorTie.lean); close each card by the builder's one call (the guide's Derived/Test/ToyasCard.lean, 'card_holds'). Laid BY PROGRAM, IN A SANDBOX (cutbox-door.mjs). By AI agents, Wed Nov 11 2026. No macro, syntax, notation, axiom, sorry.
-/
import Derived.Test.YtacalmdjkgbhlaaDoorRows
import GoSem.ClaimSeven
namespace Go.Proofs.YtacalmdjkgbhlaaDoor
namespace Rows

/-- THE TIED CARD OF 'n011_227.FnIsSafeSelectorsConcat'. -/
def fnIsSafeSelectorsConcatCard : Claim7 := { stood := { row := fnIsSafeSelectorsConcatRow, standIns := [], harness := (true, "dc0a990d14eb44eed06f52390f75a717161151e5f5a57665704d55a777e20495"), looks := true }, kinds := [], alts := [], laidByText := true, laidKinds := [.mapped], laidTests := true, laidLooks := .later }
def FnIsSafeSelectorsConcatCardSaid : Prop := Claim7.holds Tryd.pinned (.plain (OpenSpec.ofChange fnIsSafeSelectorsConcatSpec)) fnIsSafeSelectorsConcatCard

/-- THE SECOND FORM's CARD OF 'n011_227.FnIsSafeSelectorsConcat'. -/
def fnIsSafeSelectorsConcatUptoCard : Claim7 := { stood := { row := fnIsSafeSelectorsConcatUptoRow, standIns := [], harness := (true, "dc0a990d14eb44eed06f52390f75a717161151e5f5a57665704d55a777e20495"), looks := true }, kinds := [], alts := [], laidByText := true, laidKinds := [.mapped], laidTests := true, laidLooks := .later }
def FnIsSafeSelectorsConcatUptoCardSaid : Prop := Claim7.holds Tryd.pinned (.plain (OpenSpec.upto fnIsSafeSelectorsConcatSpec)) fnIsSafeSelectorsConcatUptoCard
end Rows
end Go.Proofs.YtacalmdjkgbhlaaDoor

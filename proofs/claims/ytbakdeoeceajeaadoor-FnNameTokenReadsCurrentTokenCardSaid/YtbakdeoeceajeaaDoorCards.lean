/-
  DERIVED. GIVEN WITH THE SEED: THE CARDS: each row of YtbakdeoeceajeaaDoorRows.lean that lists a variable, with what it lists TIED to the program's text (the seventh form; the later family's looks); each row that meets fmt, with fmt's text TOLD by the authors' own Lean function (tested against real Go, not proved from fmt's source: count such statements apart). THE CARD IS WHAT COUNTS. Prove the row's statement (the work); the ties are given (YtbakdeoeceajeaaDoorTie.lean); close each card by the builder's one call (the guide's Derived/Test/ToyasCard.lean, 'card_holds'). Laid BY PROGRAM, IN A SANDBOX (cutbox-door.mjs). By AI agents, Wed Nov 11 2026. No macro, syntax, notation, axiom, sorry.
-/
import Derived.Test.YtbakdeoeceajeaaDoorRows
import GoSem.ClaimSeven
namespace Go.Proofs.YtbakdeoeceajeaaDoor
namespace Rows

/-- THE TIED CARD OF 'n011_256.FnNameTokenReadsCurrentToken'. -/
def fnNameTokenReadsCurrentTokenCard : Claim7 := { stood := { row := fnNameTokenReadsCurrentTokenRow, standIns := [], harness := (true, "fbf190ad8d16086c9bf1c272332d381597cb335ec981b3a1073c85586146a3ba"), looks := false }, kinds := [], alts := [], laidByText := true, laidKinds := [.data, .pinned], laidTests := true, laidLooks := .later }
def FnNameTokenReadsCurrentTokenCardSaid : Prop := Claim7.holds Tryd.pinned (.plain (OpenSpec.ofChange fnNameTokenReadsCurrentTokenSpec)) fnNameTokenReadsCurrentTokenCard

/-- THE SECOND FORM's CARD OF 'n011_256.FnNameTokenReadsCurrentToken'. -/
def fnNameTokenReadsCurrentTokenUptoCard : Claim7 := { stood := { row := fnNameTokenReadsCurrentTokenUptoRow, standIns := [], harness := (true, "fbf190ad8d16086c9bf1c272332d381597cb335ec981b3a1073c85586146a3ba"), looks := false }, kinds := [], alts := [], laidByText := true, laidKinds := [.data, .pinned], laidTests := true, laidLooks := .later }
def FnNameTokenReadsCurrentTokenUptoCardSaid : Prop := Claim7.holds Tryd.pinned (.plain (OpenSpec.upto fnNameTokenReadsCurrentTokenSpec)) fnNameTokenReadsCurrentTokenUptoCard
end Rows
end Go.Proofs.YtbakdeoeceajeaaDoor

/-
  DERIVED. GIVEN WITH THE SEED: THE CARDS: each row of YtgickbdbgeeahaaDoorRows.lean that lists a variable, with what it lists TIED to the program's text (the seventh form; the later family's looks); each row that meets fmt, with fmt's text TOLD by the authors' own Lean function (tested against real Go, not proved from fmt's source: count such statements apart). THE CARD IS WHAT COUNTS. Prove the row's statement (the work); the ties are given (YtgickbdbgeeahaaDoorTie.lean); close each card by the builder's one call (the guide's Derived/Test/ToyasCard.lean, 'card_holds'). Laid BY PROGRAM, IN A SANDBOX (cutbox-door.mjs). By AI agents, Wed Nov 11 2026. No macro, syntax, notation, axiom, sorry.
-/
import Derived.Test.YtgickbdbgeeahaaDoorRows
import GoSem.ClaimSeven
namespace Go.Proofs.YtgickbdbgeeahaaDoor
namespace Rows

/-- THE TIED CARD OF 'n011_14.FnMangleFontWeightIdempotent'. -/
def fnMangleFontWeightIdempotentCard : Claim7 := { stood := { row := fnMangleFontWeightIdempotentRow, standIns := [], harness := (true, "820e4c7aa2b7492c229802f73c859be2a71cdc6aa873d72c3ea7273a7cf7db25"), looks := false }, kinds := [], alts := [], laidByText := true, laidKinds := [.data, .pinned, .pinned], laidTests := true, laidLooks := .later }
def FnMangleFontWeightIdempotentCardSaid : Prop := Claim7.holds Tryd.pinned (.plain (OpenSpec.ofChange fnMangleFontWeightIdempotentSpec)) fnMangleFontWeightIdempotentCard

/-- THE SECOND FORM's CARD OF 'n011_14.FnMangleFontWeightIdempotent'. -/
def fnMangleFontWeightIdempotentUptoCard : Claim7 := { stood := { row := fnMangleFontWeightIdempotentUptoRow, standIns := [], harness := (true, "820e4c7aa2b7492c229802f73c859be2a71cdc6aa873d72c3ea7273a7cf7db25"), looks := false }, kinds := [], alts := [], laidByText := true, laidKinds := [.data, .pinned, .pinned], laidTests := true, laidLooks := .later }
def FnMangleFontWeightIdempotentUptoCardSaid : Prop := Claim7.holds Tryd.pinned (.plain (OpenSpec.upto fnMangleFontWeightIdempotentSpec)) fnMangleFontWeightIdempotentUptoCard
end Rows
end Go.Proofs.YtgickbdbgeeahaaDoor

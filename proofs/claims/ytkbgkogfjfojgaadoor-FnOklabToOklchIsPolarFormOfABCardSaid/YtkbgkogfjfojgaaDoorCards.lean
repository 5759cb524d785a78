/-
  DERIVED. GIVEN WITH THE SEED: THE CARDS: each row of YtkbgkogfjfojgaaDoorRows.lean that lists a variable, with what it lists TIED to the program's text (the seventh form; the later family's looks); each row that meets fmt, with fmt's text TOLD by the authors' own Lean function (tested against real Go, not proved from fmt's source: count such statements apart). THE CARD IS WHAT COUNTS. Prove the row's statement (the work); the ties are given (YtkbgkogfjfojgaaDoorTie.lean); close each card by the builder's one call (the guide's Derived/Test/ToyasCard.lean, 'card_holds'). Laid BY PROGRAM, IN A SANDBOX (cutbox-door.mjs). By AI agents, Wed Nov 11 2026. No macro, syntax, notation, axiom, sorry.
-/
import Derived.Test.YtkbgkogfjfojgaaDoorRows
import GoSem.ClaimSeven
namespace Go.Proofs.YtkbgkogfjfojgaaDoor
namespace Rows

/-- THE TIED CARD OF 'n011_191.FnOklabToOklchIsPolarFormOfAB'. -/
def fnOklabToOklchIsPolarFormOfABCard : Claim7 := { stood := { row := fnOklabToOklchIsPolarFormOfABRow, standIns := [], harness := (true, "b86b7532aad99c3b70635afe49586fe35b36753c2a81078c454f83de8a4ccd5e"), looks := false }, kinds := [], alts := [], laidByText := true, laidKinds := [.data, .data, .data], laidTests := true, laidLooks := .later }
def FnOklabToOklchIsPolarFormOfABCardSaid : Prop := Claim7.holds Tryd.pinned (.plain (OpenSpec.ofChange fnOklabToOklchIsPolarFormOfABSpec)) fnOklabToOklchIsPolarFormOfABCard

/-- THE SECOND FORM's CARD OF 'n011_191.FnOklabToOklchIsPolarFormOfAB'. -/
def fnOklabToOklchIsPolarFormOfABUptoCard : Claim7 := { stood := { row := fnOklabToOklchIsPolarFormOfABUptoRow, standIns := [], harness := (true, "b86b7532aad99c3b70635afe49586fe35b36753c2a81078c454f83de8a4ccd5e"), looks := false }, kinds := [], alts := [], laidByText := true, laidKinds := [.data, .data, .data], laidTests := true, laidLooks := .later }
def FnOklabToOklchIsPolarFormOfABUptoCardSaid : Prop := Claim7.holds Tryd.pinned (.plain (OpenSpec.upto fnOklabToOklchIsPolarFormOfABSpec)) fnOklabToOklchIsPolarFormOfABUptoCard
end Rows
end Go.Proofs.YtkbgkogfjfojgaaDoor

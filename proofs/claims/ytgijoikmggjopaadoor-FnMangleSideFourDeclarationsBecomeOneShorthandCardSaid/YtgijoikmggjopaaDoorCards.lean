/-
  DERIVED. GIVEN WITH THE SEED: THE CARDS: each row of YtgijoikmggjopaaDoorRows.lean that lists a variable, with what it lists TIED to the program's text (the seventh form; the later family's looks); each row that meets fmt, with fmt's text TOLD by the authors' own Lean function (tested against real Go, not proved from fmt's source: count such statements apart). THE CARD IS WHAT COUNTS. Prove the row's statement (the work); the ties are given (YtgijoikmggjopaaDoorTie.lean); close each card by the builder's one call (the guide's Derived/Test/ToyasCard.lean, 'card_holds'). Laid BY PROGRAM, IN A SANDBOX (cutbox-door.mjs). By AI agents, Wed Nov 11 2026. No macro, syntax, notation, axiom, sorry.
-/
import Derived.Test.YtgijoikmggjopaaDoorRows
import GoSem.ClaimSeven
namespace Go.Proofs.YtgijoikmggjopaaDoor
namespace Rows

/-- THE TIED CARD OF 'n011_148.FnMangleSideFourDeclarationsBecomeOneShorthand'. -/
def fnMangleSideFourDeclarationsBecomeOneShorthandCard : Claim7 := { stood := { row := fnMangleSideFourDeclarationsBecomeOneShorthandRow, standIns := [], harness := (true, "5cbbdbf6181808fe82175891da6d6672c8bb0ddb60571e0317f3139a423e89c4"), looks := true }, kinds := [], alts := [], laidByText := true, laidKinds := [.data, .data, .data, .pinned, .pinned], laidTests := true, laidLooks := .later }
def FnMangleSideFourDeclarationsBecomeOneShorthandCardSaid : Prop := Claim7.holds Tryd.pinned (.plain (OpenSpec.ofChange fnMangleSideFourDeclarationsBecomeOneShorthandSpec)) fnMangleSideFourDeclarationsBecomeOneShorthandCard

/-- THE SECOND FORM's CARD OF 'n011_148.FnMangleSideFourDeclarationsBecomeOneShorthand'. -/
def fnMangleSideFourDeclarationsBecomeOneShorthandUptoCard : Claim7 := { stood := { row := fnMangleSideFourDeclarationsBecomeOneShorthandUptoRow, standIns := [], harness := (true, "5cbbdbf6181808fe82175891da6d6672c8bb0ddb60571e0317f3139a423e89c4"), looks := true }, kinds := [], alts := [], laidByText := true, laidKinds := [.data, .data, .data, .pinned, .pinned], laidTests := true, laidLooks := .later }
def FnMangleSideFourDeclarationsBecomeOneShorthandUptoCardSaid : Prop := Claim7.holds Tryd.pinned (.plain (OpenSpec.upto fnMangleSideFourDeclarationsBecomeOneShorthandSpec)) fnMangleSideFourDeclarationsBecomeOneShorthandUptoCard
end Rows
end Go.Proofs.YtgijoikmggjopaaDoor

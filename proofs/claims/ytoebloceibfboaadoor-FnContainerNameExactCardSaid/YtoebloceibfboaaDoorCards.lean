/-
  DERIVED. GIVEN WITH THE SEED: THE CARDS: each row of YtoebloceibfboaaDoorRows.lean that lists a variable, with what it lists TIED to the program's text (the seventh form; the later family's looks); each row that meets fmt, with fmt's text TOLD by the authors' own Lean function (tested against real Go, not proved from fmt's source: count such statements apart). THE CARD IS WHAT COUNTS. Prove the row's statement (the work); the ties are given (YtoebloceibfboaaDoorTie.lean); close each card by the builder's one call (the guide's Derived/Test/ToyasCard.lean, 'card_holds'). Laid BY PROGRAM, IN A SANDBOX (cutbox-door.mjs). By AI agents, Wed Nov 11 2026. No macro, syntax, notation, axiom, sorry.
-/
import Derived.Test.YtoebloceibfboaaDoorRows
import GoSem.ClaimSeven
namespace Go.Proofs.YtoebloceibfboaaDoor
namespace Rows

/-- THE TIED CARD OF 'n011_185.FnHandleSingleExact'. -/
def fnHandleSingleExactCard : Claim7 := { stood := { row := fnHandleSingleExactRow, standIns := [], harness := (true, "6bbb3c937e0b6c647f0f5325ee68b65333edbca3a07d58ccd0f1e8c77e0446c2"), looks := false }, kinds := [], alts := [], laidByText := true, laidKinds := [.data, .data, .mapped, .pinned, .pinned], laidTests := true, laidLooks := .later }
def FnHandleSingleExactCardSaid : Prop := Claim7.holds Tryd.pinned (.plain (OpenSpec.ofChange fnHandleSingleExactSpec)) fnHandleSingleExactCard

/-- THE TIED CARD OF 'n011_185.FnContainerNameExact'. -/
def fnContainerNameExactCard : Claim7 := { stood := { row := fnContainerNameExactRow, standIns := [], harness := (true, "6bbb3c937e0b6c647f0f5325ee68b65333edbca3a07d58ccd0f1e8c77e0446c2"), looks := false }, kinds := [], alts := [], laidByText := true, laidKinds := [.data, .data, .mapped, .pinned, .pinned], laidTests := true, laidLooks := .later }
def FnContainerNameExactCardSaid : Prop := Claim7.holds Tryd.pinned (.plain (OpenSpec.ofChange fnContainerNameExactSpec)) fnContainerNameExactCard

/-- THE SECOND FORM's CARD OF 'n011_185.FnHandleSingleExact'. -/
def fnHandleSingleExactUptoCard : Claim7 := { stood := { row := fnHandleSingleExactUptoRow, standIns := [], harness := (true, "6bbb3c937e0b6c647f0f5325ee68b65333edbca3a07d58ccd0f1e8c77e0446c2"), looks := false }, kinds := [], alts := [], laidByText := true, laidKinds := [.data, .data, .mapped, .pinned, .pinned], laidTests := true, laidLooks := .later }
def FnHandleSingleExactUptoCardSaid : Prop := Claim7.holds Tryd.pinned (.plain (OpenSpec.upto fnHandleSingleExactSpec)) fnHandleSingleExactUptoCard

/-- THE SECOND FORM's CARD OF 'n011_185.FnContainerNameExact'. -/
def fnContainerNameExactUptoCard : Claim7 := { stood := { row := fnContainerNameExactUptoRow, standIns := [], harness := (true, "6bbb3c937e0b6c647f0f5325ee68b65333edbca3a07d58ccd0f1e8c77e0446c2"), looks := false }, kinds := [], alts := [], laidByText := true, laidKinds := [.data, .data, .mapped, .pinned, .pinned], laidTests := true, laidLooks := .later }
def FnContainerNameExactUptoCardSaid : Prop := Claim7.holds Tryd.pinned (.plain (OpenSpec.upto fnContainerNameExactSpec)) fnContainerNameExactUptoCard
end Rows
end Go.Proofs.YtoebloceibfboaaDoor

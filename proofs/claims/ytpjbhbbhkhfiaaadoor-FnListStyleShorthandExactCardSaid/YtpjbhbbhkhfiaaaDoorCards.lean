/-
  DERIVED. GIVEN WITH THE SEED: THE CARDS: each row of YtpjbhbbhkhfiaaaDoorRows.lean that lists a variable, with what it lists TIED to the program's text (the seventh form; the later family's looks); each row that meets fmt, with fmt's text TOLD by the authors' own Lean function (tested against real Go, not proved from fmt's source: count such statements apart). THE CARD IS WHAT COUNTS. Prove the row's statement (the work); the ties are given (YtpjbhbbhkhfiaaaDoorTie.lean); close each card by the builder's one call (the guide's Derived/Test/ToyasCard.lean, 'card_holds'). Laid BY PROGRAM, IN A SANDBOX (cutbox-door.mjs). By AI agents, Wed Nov 11 2026. No macro, syntax, notation, axiom, sorry.
-/
import Derived.Test.YtpjbhbbhkhfiaaaDoorRows
import GoSem.ClaimSeven
namespace Go.Proofs.YtpjbhbbhkhfiaaaDoor
namespace Rows

/-- THE TIED CARD OF 'n011_231.FnListStyleShorthandExact'. -/
def fnListStyleShorthandExactCard : Claim7 := { stood := { row := fnListStyleShorthandExactRow, standIns := [], harness := (true, "fd127fe6e6166cb3f02a63b63837dfd166af75c635963b5aa8aedf66ef39cdba"), looks := false }, kinds := [], alts := [], laidByText := true, laidKinds := [.data, .data, .mapped, .mapped, .pinned, .pinned], laidTests := true, laidLooks := .later }
def FnListStyleShorthandExactCardSaid : Prop := Claim7.holds Tryd.pinned (.plain (OpenSpec.ofChange fnListStyleShorthandExactSpec)) fnListStyleShorthandExactCard

/-- THE TIED CARD OF 'n011_54.FnIsValidCustomIdentMatchesAsciiModel'. -/
def fnIsValidCustomIdentMatchesAsciiModelCard : Claim7 := { stood := { row := fnIsValidCustomIdentMatchesAsciiModelRow, standIns := [], harness := (true, "fd127fe6e6166cb3f02a63b63837dfd166af75c635963b5aa8aedf66ef39cdba"), looks := false }, kinds := [], alts := [], laidByText := true, laidKinds := [.data, .mapped, .pinned, .pinned], laidTests := true, laidLooks := .later }
def FnIsValidCustomIdentMatchesAsciiModelCardSaid : Prop := Claim7.holds Tryd.pinned (.plain (OpenSpec.ofChange fnIsValidCustomIdentMatchesAsciiModelSpec)) fnIsValidCustomIdentMatchesAsciiModelCard

/-- THE SECOND FORM's CARD OF 'n011_231.FnListStyleShorthandExact'. -/
def fnListStyleShorthandExactUptoCard : Claim7 := { stood := { row := fnListStyleShorthandExactUptoRow, standIns := [], harness := (true, "fd127fe6e6166cb3f02a63b63837dfd166af75c635963b5aa8aedf66ef39cdba"), looks := false }, kinds := [], alts := [], laidByText := true, laidKinds := [.data, .data, .mapped, .mapped, .pinned, .pinned], laidTests := true, laidLooks := .later }
def FnListStyleShorthandExactUptoCardSaid : Prop := Claim7.holds Tryd.pinned (.plain (OpenSpec.upto fnListStyleShorthandExactSpec)) fnListStyleShorthandExactUptoCard

/-- THE SECOND FORM's CARD OF 'n011_54.FnIsValidCustomIdentMatchesAsciiModel'. -/
def fnIsValidCustomIdentMatchesAsciiModelUptoCard : Claim7 := { stood := { row := fnIsValidCustomIdentMatchesAsciiModelUptoRow, standIns := [], harness := (true, "fd127fe6e6166cb3f02a63b63837dfd166af75c635963b5aa8aedf66ef39cdba"), looks := false }, kinds := [], alts := [], laidByText := true, laidKinds := [.data, .mapped, .pinned, .pinned], laidTests := true, laidLooks := .later }
def FnIsValidCustomIdentMatchesAsciiModelUptoCardSaid : Prop := Claim7.holds Tryd.pinned (.plain (OpenSpec.upto fnIsValidCustomIdentMatchesAsciiModelSpec)) fnIsValidCustomIdentMatchesAsciiModelUptoCard
end Rows
end Go.Proofs.YtpjbhbbhkhfiaaaDoor

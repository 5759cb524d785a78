/-
  DERIVED. GIVEN WITH THE SEED: THE CARDS: each row of YtfklgdecaknbaaaFmtRows.lean that lists a variable, with what it lists TIED to the program's text (the seventh form; the later family's looks); each row that meets fmt, with fmt's text TOLD by the authors' own Lean function (tested against real Go, not proved from fmt's source: count such statements apart). THE CARD IS WHAT COUNTS. Prove the row's statement (the work); the ties are given (YtfklgdecaknbaaaFmtTie.lean); close each card by the builder's one call (the guide's Derived/Test/ToyasCard.lean, 'card_holds'). Laid BY PROGRAM, IN A SANDBOX (cutbox-door.mjs). By AI agents, Wed Nov 11 2026. No macro, syntax, notation, axiom, sorry.
-/
import Derived.Test.YtfklgdecaknbaaaFmtRows
import GoSem.ClaimSeven
namespace Go.Proofs.YtfklgdecaknbaaaFmt
namespace Rows

/-- THE TOLD AND TIED CARD OF 'n011_99.FnParseAnyValueMatchesRecursiveModel'. -/
def fnParseAnyValueMatchesRecursiveModelCard : Claim7 := { stood := { row := fnParseAnyValueMatchesRecursiveModelRow, standIns := [], harness := (true, "c1468cdbc2ebaaabb18786e5d66537ce131b6ceef73e5da1005542977af156a2"), looks := false }, told := true, laidByText := true, laidKinds := [.data, .data, .pinned], laidTests := true, laidLooks := .later, goes := false }
def FnParseAnyValueMatchesRecursiveModelToldSaid : Prop := Claim7.holds Tryf.pinned (.plain (OpenSpec.ofChange fnParseAnyValueMatchesRecursiveModelSpec)) fnParseAnyValueMatchesRecursiveModelCard
/-- ITS FALSE NEIGHBOUR. Refute it at one input. -/
def FnParseAnyValueMatchesRecursiveModelToldWrongFalsely : Prop := Claim7.holds Tryf.pinned (.plain (OpenSpec.ofChange fnParseAnyValueMatchesRecursiveModelWrong)) fnParseAnyValueMatchesRecursiveModelCard
end Rows
end Go.Proofs.YtfklgdecaknbaaaFmt

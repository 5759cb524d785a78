/-
  DERIVED. GIVEN WITH THE SEED: THE CARDS: each row of YtjigljpodkfchaaFmtRows.lean that lists a variable, with what it lists TIED to the program's text (the seventh form; the later family's looks); each row that meets fmt, with fmt's text TOLD by the authors' own Lean function (tested against real Go, not proved from fmt's source: count such statements apart). THE CARD IS WHAT COUNTS. Prove the row's statement (the work); the ties are given (YtjigljpodkfchaaFmtTie.lean); close each card by the builder's one call (the guide's Derived/Test/ToyasCard.lean, 'card_holds'). Laid BY PROGRAM, IN A SANDBOX (cutbox-door.mjs). By AI agents, Wed Nov 11 2026. No macro, syntax, notation, axiom, sorry.
-/
import Derived.Test.YtjigljpodkfchaaFmtRows
import GoSem.ClaimSeven
namespace Go.Proofs.YtjigljpodkfchaaFmt
namespace Rows

/-- THE TOLD AND TIED CARD OF 'n011_82.FnSubstituteAmpersandsClosedForm'. -/
def fnSubstituteAmpersandsClosedFormCard : Claim7 := { stood := { row := fnSubstituteAmpersandsClosedFormRow, standIns := [], harness := (true, "eb2210a53ee3ab4bd86431033f8ea9d975c2b68dc0e8360a0bf779e71310dd7b"), looks := true }, told := true, laidByText := true, laidKinds := [.data, .pinned], laidTests := true, laidLooks := .later, goes := false }
def FnSubstituteAmpersandsClosedFormToldSaid : Prop := Claim7.holds Tryf.pinned (.plain (OpenSpec.ofChange fnSubstituteAmpersandsClosedFormSpec)) fnSubstituteAmpersandsClosedFormCard
/-- ITS FALSE NEIGHBOUR. Refute it at one input. -/
def FnSubstituteAmpersandsClosedFormToldWrongFalsely : Prop := Claim7.holds Tryf.pinned (.plain (OpenSpec.ofChange fnSubstituteAmpersandsClosedFormWrong)) fnSubstituteAmpersandsClosedFormCard
end Rows
end Go.Proofs.YtjigljpodkfchaaFmt

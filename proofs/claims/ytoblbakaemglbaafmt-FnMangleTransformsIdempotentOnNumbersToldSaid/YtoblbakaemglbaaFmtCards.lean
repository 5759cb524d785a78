/-
  DERIVED. GIVEN WITH THE SEED: THE CARDS: each row of YtoblbakaemglbaaFmtRows.lean that lists a variable, with what it lists TIED to the program's text (the seventh form; the later family's looks); each row that meets fmt, with fmt's text TOLD by the authors' own Lean function (tested against real Go, not proved from fmt's source: count such statements apart). THE CARD IS WHAT COUNTS. Prove the row's statement (the work); the ties are given (YtoblbakaemglbaaFmtTie.lean); close each card by the builder's one call (the guide's Derived/Test/ToyasCard.lean, 'card_holds'). Laid BY PROGRAM, IN A SANDBOX (cutbox-door.mjs). By AI agents, Wed Nov 11 2026. No macro, syntax, notation, axiom, sorry.
-/
import Derived.Test.YtoblbakaemglbaaFmtRows
import GoSem.ClaimSeven
namespace Go.Proofs.YtoblbakaemglbaaFmt
namespace Rows

/-- THE TOLD AND TIED CARD OF 'n011_214.FnMangleTransformsIdempotentOnNumbers'. -/
def fnMangleTransformsIdempotentOnNumbersCard : Claim7 := { stood := { row := fnMangleTransformsIdempotentOnNumbersRow, standIns := [], harness := (true, "8edb3ba30225e5b41411b51f9018d293f203d1181b39d2e5db035a64ca44f086"), looks := false }, told := true, laidByText := true, laidKinds := [.data, .pinned, .pinned], laidTests := true, laidLooks := .later, goes := false }
def FnMangleTransformsIdempotentOnNumbersToldSaid : Prop := Claim7.holds Tryf.pinned (.plain (OpenSpec.ofChange fnMangleTransformsIdempotentOnNumbersSpec)) fnMangleTransformsIdempotentOnNumbersCard
/-- ITS FALSE NEIGHBOUR. Refute it at one input. -/
def FnMangleTransformsIdempotentOnNumbersToldWrongFalsely : Prop := Claim7.holds Tryf.pinned (.plain (OpenSpec.ofChange fnMangleTransformsIdempotentOnNumbersWrong)) fnMangleTransformsIdempotentOnNumbersCard
end Rows
end Go.Proofs.YtoblbakaemglbaaFmt

/-
  DERIVED. GIVEN WITH THE SEED: THE CARDS: each row of YtlmnnejfcieddaaDoorRows.lean that lists a variable, with what it lists TIED to the program's text (the seventh form; the later family's looks); each row that meets fmt, with fmt's text TOLD by the authors' own Lean function (tested against real Go, not proved from fmt's source: count such statements apart). THE CARD IS WHAT COUNTS. Prove the row's statement (the work); the ties are given (YtlmnnejfcieddaaDoorTie.lean); close each card by the builder's one call (the guide's Derived/Test/ToyasCard.lean, 'card_holds'). Laid BY PROGRAM, IN A SANDBOX (cutbox-door.mjs). By AI agents, Wed Nov 11 2026. No macro, syntax, notation, axiom, sorry.
-/
import Derived.Test.YtlmnnejfcieddaaDoorRows
import GoSem.ClaimSeven
namespace Go.Proofs.YtlmnnejfcieddaaDoor
namespace Rows

/-- THE TIED CARD OF 'n011_154.FnHandleSingleAnimationNameScript'. -/
def fnHandleSingleAnimationNameScriptCard : Claim7 := { stood := { row := fnHandleSingleAnimationNameScriptRow, standIns := [], harness := (true, "615410b66174b9214f31e52856552b8d3d2334e96165c7b4bbc86ae0cc39e676"), looks := false }, kinds := [], alts := [], laidByText := true, laidKinds := [.data, .data, .mapped, .pinned, .pinned], laidTests := true, laidLooks := .later }
def FnHandleSingleAnimationNameScriptCardSaid : Prop := Claim7.holds Tryd.pinned (.plain (OpenSpec.ofChange fnHandleSingleAnimationNameScriptSpec)) fnHandleSingleAnimationNameScriptCard

/-- THE TIED CARD OF 'n011_154.FnProcessAnimationNameIdempotent'. -/
def fnProcessAnimationNameIdempotentCard : Claim7 := { stood := { row := fnProcessAnimationNameIdempotentRow, standIns := [], harness := (true, "615410b66174b9214f31e52856552b8d3d2334e96165c7b4bbc86ae0cc39e676"), looks := false }, kinds := [], alts := [], laidByText := true, laidKinds := [.data, .data, .mapped, .pinned, .pinned], laidTests := true, laidLooks := .later }
def FnProcessAnimationNameIdempotentCardSaid : Prop := Claim7.holds Tryd.pinned (.plain (OpenSpec.ofChange fnProcessAnimationNameIdempotentSpec)) fnProcessAnimationNameIdempotentCard

/-- THE SECOND FORM's CARD OF 'n011_154.FnHandleSingleAnimationNameScript'. -/
def fnHandleSingleAnimationNameScriptUptoCard : Claim7 := { stood := { row := fnHandleSingleAnimationNameScriptUptoRow, standIns := [], harness := (true, "615410b66174b9214f31e52856552b8d3d2334e96165c7b4bbc86ae0cc39e676"), looks := false }, kinds := [], alts := [], laidByText := true, laidKinds := [.data, .data, .mapped, .pinned, .pinned], laidTests := true, laidLooks := .later }
def FnHandleSingleAnimationNameScriptUptoCardSaid : Prop := Claim7.holds Tryd.pinned (.plain (OpenSpec.upto fnHandleSingleAnimationNameScriptSpec)) fnHandleSingleAnimationNameScriptUptoCard

/-- THE SECOND FORM's CARD OF 'n011_154.FnProcessAnimationNameIdempotent'. -/
def fnProcessAnimationNameIdempotentUptoCard : Claim7 := { stood := { row := fnProcessAnimationNameIdempotentUptoRow, standIns := [], harness := (true, "615410b66174b9214f31e52856552b8d3d2334e96165c7b4bbc86ae0cc39e676"), looks := false }, kinds := [], alts := [], laidByText := true, laidKinds := [.data, .data, .mapped, .pinned, .pinned], laidTests := true, laidLooks := .later }
def FnProcessAnimationNameIdempotentUptoCardSaid : Prop := Claim7.holds Tryd.pinned (.plain (OpenSpec.upto fnProcessAnimationNameIdempotentSpec)) fnProcessAnimationNameIdempotentUptoCard
end Rows
end Go.Proofs.YtlmnnejfcieddaaDoor

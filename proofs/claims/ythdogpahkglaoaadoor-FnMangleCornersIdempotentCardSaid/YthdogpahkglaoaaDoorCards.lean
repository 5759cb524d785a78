/-
  DERIVED. GIVEN WITH THE SEED: THE CARDS: each row of YthdogpahkglaoaaDoorRows.lean that lists a variable, with what it lists TIED to the program's text (the seventh form; the later family's looks); each row that meets fmt, with fmt's text TOLD by the authors' own Lean function (tested against real Go, not proved from fmt's source: count such statements apart). THE CARD IS WHAT COUNTS. Prove the row's statement (the work); the ties are given (YthdogpahkglaoaaDoorTie.lean); close each card by the builder's one call (the guide's Derived/Test/ToyasCard.lean, 'card_holds'). Laid BY PROGRAM, IN A SANDBOX (cutbox-door.mjs). By AI agents, Wed Nov 11 2026. No macro, syntax, notation, axiom, sorry.
-/
import Derived.Test.YthdogpahkglaoaaDoorRows
import GoSem.ClaimSeven
namespace Go.Proofs.YthdogpahkglaoaaDoor
namespace Rows

/-- THE TIED CARD OF 'n011_161.FnLaterShorthandOrLonghandWins'. -/
def fnLaterShorthandOrLonghandWinsCard : Claim7 := { stood := { row := fnLaterShorthandOrLonghandWinsRow, standIns := [], harness := (true, "0f3f69fea12aade1bec0c5cd15b3c35e55554c4f051137423ba9b89b57f11424"), looks := true }, kinds := [], alts := [], laidByText := true, laidKinds := [.data, .pinned, .pinned], laidTests := true, laidLooks := .later }
def FnLaterShorthandOrLonghandWinsCardSaid : Prop := Claim7.holds Tryd.pinned (.plain (OpenSpec.ofChange fnLaterShorthandOrLonghandWinsSpec)) fnLaterShorthandOrLonghandWinsCard

/-- THE TIED CARD OF 'n011_161.FnMangleCornersIdempotent'. -/
def fnMangleCornersIdempotentCard : Claim7 := { stood := { row := fnMangleCornersIdempotentRow, standIns := [], harness := (true, "0f3f69fea12aade1bec0c5cd15b3c35e55554c4f051137423ba9b89b57f11424"), looks := true }, kinds := [], alts := [], laidByText := true, laidKinds := [.data, .pinned, .pinned], laidTests := true, laidLooks := .later }
def FnMangleCornersIdempotentCardSaid : Prop := Claim7.holds Tryd.pinned (.plain (OpenSpec.ofChange fnMangleCornersIdempotentSpec)) fnMangleCornersIdempotentCard

/-- THE SECOND FORM's CARD OF 'n011_161.FnLaterShorthandOrLonghandWins'. -/
def fnLaterShorthandOrLonghandWinsUptoCard : Claim7 := { stood := { row := fnLaterShorthandOrLonghandWinsUptoRow, standIns := [], harness := (true, "0f3f69fea12aade1bec0c5cd15b3c35e55554c4f051137423ba9b89b57f11424"), looks := true }, kinds := [], alts := [], laidByText := true, laidKinds := [.data, .pinned, .pinned], laidTests := true, laidLooks := .later }
def FnLaterShorthandOrLonghandWinsUptoCardSaid : Prop := Claim7.holds Tryd.pinned (.plain (OpenSpec.upto fnLaterShorthandOrLonghandWinsSpec)) fnLaterShorthandOrLonghandWinsUptoCard

/-- THE SECOND FORM's CARD OF 'n011_161.FnMangleCornersIdempotent'. -/
def fnMangleCornersIdempotentUptoCard : Claim7 := { stood := { row := fnMangleCornersIdempotentUptoRow, standIns := [], harness := (true, "0f3f69fea12aade1bec0c5cd15b3c35e55554c4f051137423ba9b89b57f11424"), looks := true }, kinds := [], alts := [], laidByText := true, laidKinds := [.data, .pinned, .pinned], laidTests := true, laidLooks := .later }
def FnMangleCornersIdempotentUptoCardSaid : Prop := Claim7.holds Tryd.pinned (.plain (OpenSpec.upto fnMangleCornersIdempotentSpec)) fnMangleCornersIdempotentUptoCard
end Rows
end Go.Proofs.YthdogpahkglaoaaDoor

/- A world in which the listed variables are laid: the witness of the cards. -/
import Derived.Test.YtpjbhbbhkhfiaaaDoorCi8
import Derived.Lib.LaidIn
set_option linter.unusedVariables false
set_option linter.unusedSimpArgs false
namespace Go.Proofs.YtpjbhbbhkhfiaaaDoor
open Go.ChangeShapes Go.WideShapes Go.ChangeAt Go.RowKit
/-- the settled world with one block more (the reserved words' map), its variable laid -/
noncomputable def mapW (os : Go.Os) : World :=
  let w0 := World.holding Tryd.prog os ⟨#[], #[], []⟩
  let h := w0.heap.modify 0 fun
    | .cells _ t frozen => .cells #[.map (some w0.heap.size)] t frozen
    | o => o
  { w0 with heap := h.push (.map #[⟨.string ⟨#[100, 101, 102, 97, 117, 108, 116]⟩, .bool true, 0⟩, ⟨.string ⟨#[105, 110, 104, 101, 114, 105, 116]⟩, .bool true, 1⟩, ⟨.string ⟨#[105, 110, 105, 116, 105, 97, 108]⟩, .bool true, 2⟩, ⟨.string ⟨#[114, 101, 118, 101, 114, 116]⟩, .bool true, 3⟩, ⟨.string ⟨#[114, 101, 118, 101, 114, 116, 45, 108, 97, 121, 101, 114]⟩, .bool true, 4⟩, ⟨.string ⟨#[117, 110, 115, 101, 116]⟩, .bool true, 5⟩] 6) }
abbrev great : List String := ["unicode/utf8.acceptRanges", "unicode.CaseRanges", "unicode/utf8.first"]
noncomputable def laidW (os : Go.Os) : World := (mapW os).layVars Tryd.prog (laidL.filter fun x => great.contains x.1)
theorem laidW_os (os : Go.Os) : (laidW os).os = os := World.layVars_os _ _ _
theorem laid_met (os : Go.Os) (args : Array Value) : laidMetH Tryd.prog laidL ((laidW os).forCall (fun _ _ => 0) ⟨#[], args, []⟩).memory := by
  rw [MakeChecks.laidMetH_plain _ _ _ (by kernel_rfl)]
  have h : laidMet Tryd.prog laidL (laidW os) :=
    laidMet_layVars (w0 := mapW os) great [0, (World.holding Tryd.prog default ⟨#[], #[], []⟩).heap.size] rfl (by kernel_rfl) (by kernel_rfl)
      (LaidIn.of_run _ 10 (by kernel_rfl) (by kernel_rfl) (by kernel_rfl) (by kernel_rfl))
  exact h.of_heap (by simp [World.memory, World.forCall, Input.heap])
end Go.Proofs.YtpjbhbbhkhfiaaaDoor

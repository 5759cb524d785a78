/- Small functions of the custom-ident law, walked. -/
import Derived.Test.YtpjbhbbhkhfiaaaDoorWd
import Derived.Test.YtpjbhbbhkhfiaaaDoorIT
import Derived.Laws.BytesArg
import Derived.Laws.RangeAny
import Derived.Laws.RangeString
import Derived.Laws.IdiomStrings
import Derived.LoopTactic
import Derived.OwnWalk
import Derived.Outline
import Derived.Lib.Hide
set_option linter.unusedVariables false
set_option linter.unusedSimpArgs false
namespace Go.Proofs.YtpjbhbbhkhfiaaaDoor
open Go.RowKit
theorem ret_bool {a b : Bool} (h : a = b) : Ending.returned (.bool a) = .returned (.bool b) := by rw [h]
/-- a letter that may open a name; that may go on with one -/
def nsN (c : Int) : Bool := (decide (97 ≤ c) && decide (c ≤ 122)) || (decide (65 ≤ c) && decide (c ≤ 90)) || decide (c = 95)
def ncN (c : Int) : Bool := nsN c || (decide (48 ≤ c) && decide (c ≤ 57)) || decide (c = 45)
set_option maxRecDepth 100000 in
set_option maxHeartbeats 2000000 in
theorem ns27_c (c : Int) (w : World) (h1 : 32 ≤ c) (h2 : c ≤ 126) : Calls Tryd.prog 27 #[.int .u8 c] w fun e w' => e = .returned (.bool (nsN c)) ∧ w = w' := by
  go_enter Tryd.func27, Tryd.ntmps27
  go_wp2
  all_goals
    go_ret
    refine ⟨ret_bool ?_, rfl⟩
    rw [Bool.eq_iff_iff]
    simp [nsN]
    try omega
set_option maxRecDepth 100000 in
set_option maxHeartbeats 2000000 in
theorem ns40_c (c : Int) (w : World) (h1 : 32 ≤ c) (h2 : c ≤ 126) : Calls Tryd.prog 40 #[.int .i32 c] w fun e w' => e = .returned (.bool (nsN c)) ∧ w = w' := by
  go_enter Tryd.func40, Tryd.ntmps40
  go_wp2
  all_goals
    go_ret
    refine ⟨ret_bool ?_, rfl⟩
    rw [Bool.eq_iff_iff]
    simp [nsN]
    try omega
set_option maxRecDepth 100000 in
set_option maxHeartbeats 2000000 in
theorem nc28_c (c : Int) (w : World) (h1 : 32 ≤ c) (h2 : c ≤ 126) : Calls Tryd.prog 28 #[.int .u8 c] w fun e w' => e = .returned (.bool (ncN c)) ∧ w = w' := by
  go_enter Tryd.func28, Tryd.ntmps28
  cases hns : nsN c
  all_goals
    have C := Lib.hid (fun w => ns27_c c w h1 h2)
    rw [hns] at C
    have hns' := Lib.hid hns
    clear hns
    go_wp2_with (go_at_call 27; (with_reducible refine (C.out _).mono ?_); rintro e w' ⟨rfl, rfl⟩)
    all_goals
      go_ret
      refine ⟨ret_bool ?_, rfl⟩
      rw [Bool.eq_iff_iff]
      simp [ncN, hns'.out]
      try omega
set_option maxRecDepth 100000 in
set_option maxHeartbeats 2000000 in
theorem nc32_c (c : Int) (w : World) (h1 : 32 ≤ c) (h2 : c ≤ 126) : Calls Tryd.prog 32 #[.int .i32 c] w fun e w' => e = .returned (.bool (ncN c)) ∧ w = w' := by
  go_enter Tryd.func32, Tryd.ntmps32
  cases hns : nsN c
  all_goals
    have C := Lib.hid (fun w => ns40_c c w h1 h2)
    rw [hns] at C
    have hns' := Lib.hid hns
    clear hns
    go_wp2_with (go_at_call 40; (with_reducible refine (C.out _).mono ?_); rintro e w' ⟨rfl, rfl⟩)
    all_goals
      go_ret
      refine ⟨ret_bool ?_, rfl⟩
      rw [Bool.eq_iff_iff]
      simp [ncN, hns'.out]
      try omega
end Go.Proofs.YtpjbhbbhkhfiaaaDoor

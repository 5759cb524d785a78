/- The contracts of the methods of helpers.F64 that these proofs call: what each returns, as bits; of the memory that was there nothing turns. -/
import Derived.Test.YtfmkhbgikjllkaaRows
import Derived.WalkKit
import Derived.ProofKit
import Derived.OpenShut
import Derived.WalkLawsBesides
import Derived.Laws.FloatArith
import Derived.Lib.Hide
import Derived.Below
namespace Go.Proofs.Ytfmkhbgikjllkaa
open Go.RowKit
/-- a float in its wrapper -/
abbrev fl (x : Nat) : Value := .agg #[.float .f64 x]
theorem st_fl (a : Addr) (k : FloatKind) (n : Nat) (m) (w : World) : (store a (.float k n) m).run Try.prog w = stored Try.prog w a (.float k n) m := run_store Try.prog w a _ m rfl
theorem new_c (f : Nat) (w : World) :
    Calls Try.prog 8 #[.float .f64 f] w fun e w' => e = .returned (fl f) ∧ w.alloc (.cells #[.float .f64 f] 28) = w' := by
  have st := st_fl
  go_enter Try.func8, Try.ntmps8
  go_wp2
  exact bodyPost_ret (v := fl f) (by simp [results, Try.results8, go_sem]) rfl ⟨rfl, rfl⟩
theorem val_c (f : Nat) (w : World) :
    Calls Try.prog 9 #[fl f] w fun e w' => e = .returned (.float .f64 f) ∧ w.alloc (.cells #[.float .f64 f] 28) = w' := by
  go_enter Try.func9, Try.ntmps9
  go_wp2
  go_ret
  exact ⟨rfl, rfl⟩
set_option maxRecDepth 100000 in
theorem add_c (x y r : Nat) (w : World) (h : floatBits .add .f64 x y = some r) :
    Calls Try.prog 15 #[fl x, fl y] w fun e w' => e = .returned (fl r) ∧ Below w.heap.size w w' := by
  have st := st_fl
  have k := fun w => run_float_arith (P := Try.prog) w .add 22 .f64 x y r h
  clear h
  go_enter Try.func15, Try.ntmps15
  go_wp2_with (go_at_call 8; refine (new_c _ _).mono ?_; rintro e w' ⟨rfl, rfl⟩)
  refine bodyPost_ret (v := fl r) (by simp [results, Try.results15, go_sem]) rfl ⟨rfl, ?_⟩
  repeat (first | exact Below.refl _ _ | refine Below.alloc ?_ (by simp <;> omega) _)
set_option maxRecDepth 100000 in
theorem mul_c (x y r : Nat) (w : World) (h : floatBits .mul .f64 x y = some r) :
    Calls Try.prog 18 #[fl x, fl y] w fun e w' => e = .returned (fl r) ∧ Below w.heap.size w w' := by
  have st := st_fl
  have k := fun w => run_float_arith (P := Try.prog) w .mul 22 .f64 x y r h
  clear h
  go_enter Try.func18, Try.ntmps18
  go_wp2_with (go_at_call 8; refine (new_c _ _).mono ?_; rintro e w' ⟨rfl, rfl⟩)
  refine bodyPost_ret (v := fl r) (by simp [results, Try.results18, go_sem]) rfl ⟨rfl, ?_⟩
  repeat (first | exact Below.refl _ _ | refine Below.alloc ?_ (by simp <;> omega) _)
set_option maxRecDepth 100000 in
theorem addK_c (x y r : Nat) (w : World) (h : floatBits .add .f64 x y = some r) :
    Calls Try.prog 13 #[fl x, .float .f64 y] w fun e w' => e = .returned (fl r) ∧ Below w.heap.size w w' := by
  have st := st_fl
  have k := fun w => run_float_arith (P := Try.prog) w .add 22 .f64 x y r h
  clear h
  go_enter Try.func13, Try.ntmps13
  go_wp2_with (go_at_call 8; refine (new_c _ _).mono ?_; rintro e w' ⟨rfl, rfl⟩)
  refine bodyPost_ret (v := fl r) (by simp [results, Try.results13, go_sem]) rfl ⟨rfl, ?_⟩
  repeat (first | exact Below.refl _ _ | refine Below.alloc ?_ (by simp <;> omega) _)
set_option maxRecDepth 100000 in
theorem mulK_c (x y r : Nat) (w : World) (h : floatBits .mul .f64 x y = some r) :
    Calls Try.prog 12 #[fl x, .float .f64 y] w fun e w' => e = .returned (fl r) ∧ Below w.heap.size w w' := by
  have st := st_fl
  have k := fun w => run_float_arith (P := Try.prog) w .mul 22 .f64 x y r h
  clear h
  go_enter Try.func12, Try.ntmps12
  go_wp2_with (go_at_call 8; refine (new_c _ _).mono ?_; rintro e w' ⟨rfl, rfl⟩)
  refine bodyPost_ret (v := fl r) (by simp [results, Try.results12, go_sem]) rfl ⟨rfl, ?_⟩
  repeat (first | exact Below.refl _ _ | refine Below.alloc ?_ (by simp <;> omega) _)
end Go.Proofs.Ytfmkhbgikjllkaa

/- The contracts of the methods of helpers.F64 that these proofs call: what each returns, as bits; of the memory that was there nothing turns. -/
import Derived.Test.YtgflhgjigfpgiaaRows
import Derived.WalkKit
import Derived.ProofKit
import Derived.OpenShut
import Derived.WalkLawsBesides
import Derived.Laws.FloatArith
import Derived.Lib.Hide
import Derived.Below
namespace Go.Proofs.Ytgflhgjigfpgiaa
open Go.RowKit
/-- a float in its wrapper -/
abbrev fl (x : Nat) : Value := .agg #[.float .f64 x]
theorem st_fl (a : Addr) (k : FloatKind) (n : Nat) (m) (w : World) : (store a (.float k n) m).run Try.prog w = stored Try.prog w a (.float k n) m := run_store Try.prog w a _ m rfl
theorem new_c (f : Nat) (w : World) :
    Calls Try.prog 34 #[.float .f64 f] w fun e w' => e = .returned (fl f) ∧ w.alloc (.cells #[.float .f64 f] 32) = w' := by
  have st := st_fl
  go_enter Try.func34, Try.ntmps34
  go_wp2
  exact bodyPost_ret (v := fl f) (by simp [results, Try.results34, go_sem]) rfl ⟨rfl, rfl⟩
theorem val_c (f : Nat) (w : World) :
    Calls Try.prog 35 #[fl f] w fun e w' => e = .returned (.float .f64 f) ∧ w.alloc (.cells #[.float .f64 f] 32) = w' := by
  go_enter Try.func35, Try.ntmps35
  go_wp2
  go_ret
  exact ⟨rfl, rfl⟩
set_option maxRecDepth 100000 in
theorem add_c (x y r : Nat) (w : World) (h : floatBits .add .f64 x y = some r) :
    Calls Try.prog 48 #[fl x, fl y] w fun e w' => e = .returned (fl r) ∧ Below w.heap.size w w' := by
  have st := st_fl
  have k := fun w => run_float_arith (P := Try.prog) w .add 22 .f64 x y r h
  clear h
  go_enter Try.func48, Try.ntmps48
  go_wp2_with (go_at_call 34; refine (new_c _ _).mono ?_; rintro e w' ⟨rfl, rfl⟩)
  refine bodyPost_ret (v := fl r) (by simp [results, Try.results48, go_sem]) rfl ⟨rfl, ?_⟩
  repeat (first | exact Below.refl _ _ | refine Below.alloc ?_ (by simp <;> omega) _)
set_option maxRecDepth 100000 in
theorem mulK_c (x y r : Nat) (w : World) (h : floatBits .mul .f64 x y = some r) :
    Calls Try.prog 47 #[fl x, .float .f64 y] w fun e w' => e = .returned (fl r) ∧ Below w.heap.size w w' := by
  have st := st_fl
  have k := fun w => run_float_arith (P := Try.prog) w .mul 22 .f64 x y r h
  clear h
  go_enter Try.func47, Try.ntmps47
  go_wp2_with (go_at_call 34; refine (new_c _ _).mono ?_; rintro e w' ⟨rfl, rfl⟩)
  refine bodyPost_ret (v := fl r) (by simp [results, Try.results47, go_sem]) rfl ⟨rfl, ?_⟩
  repeat (first | exact Below.refl _ _ | refine Below.alloc ?_ (by simp <;> omega) _)
end Go.Proofs.Ytgflhgjigfpgiaa

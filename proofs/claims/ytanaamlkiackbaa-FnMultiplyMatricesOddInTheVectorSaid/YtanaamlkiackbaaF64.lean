/- The contracts of the methods of helpers.F64 that these proofs call: what each returns, as bits; of the memory that was there nothing turns. -/
import Derived.Test.YtanaamlkiackbaaRows
import Derived.WalkKit
import Derived.ProofKit
import Derived.OpenShut
import Derived.WalkLawsBesides
import Derived.Laws.FloatArith
import Derived.Lib.Hide
import Derived.Below
namespace Go.Proofs.Ytanaamlkiackbaa
open Go.RowKit
/-- a float in its wrapper -/
abbrev fl (x : Nat) : Value := .agg #[.float .f64 x]
theorem st_fl (a : Addr) (k : FloatKind) (n : Nat) (m) (w : World) : (store a (.float k n) m).run Try.prog w = stored Try.prog w a (.float k n) m := run_store Try.prog w a _ m rfl
theorem new_c (f : Nat) (w : World) :
    Calls Try.prog 20 #[.float .f64 f] w fun e w' => e = .returned (fl f) ∧ w.alloc (.cells #[.float .f64 f] 38) = w' := by
  have st := st_fl
  go_enter Try.func20, Try.ntmps20
  go_wp2
  exact bodyPost_ret (v := fl f) (by simp [results, Try.results20, go_sem]) rfl ⟨rfl, rfl⟩
theorem val_c (f : Nat) (w : World) :
    Calls Try.prog 21 #[fl f] w fun e w' => e = .returned (.float .f64 f) ∧ w.alloc (.cells #[.float .f64 f] 38) = w' := by
  go_enter Try.func21, Try.ntmps21
  go_wp2
  go_ret
  exact ⟨rfl, rfl⟩
set_option maxRecDepth 100000 in
theorem add_c (x y r : Nat) (w : World) (h : floatBits .add .f64 x y = some r) :
    Calls Try.prog 32 #[fl x, fl y] w fun e w' => e = .returned (fl r) ∧ Below w.heap.size w w' := by
  have st := st_fl
  have k := fun w => run_float_arith (P := Try.prog) w .add 22 .f64 x y r h
  clear h
  go_enter Try.func32, Try.ntmps32
  go_wp2_with (go_at_call 20; refine (new_c _ _).mono ?_; rintro e w' ⟨rfl, rfl⟩)
  refine bodyPost_ret (v := fl r) (by simp [results, Try.results32, go_sem]) rfl ⟨rfl, ?_⟩
  repeat (first | exact Below.refl _ _ | refine Below.alloc ?_ (by simp <;> omega) _)
set_option maxRecDepth 100000 in
theorem sub_c (x y r : Nat) (w : World) (h : floatBits .sub .f64 x y = some r) :
    Calls Try.prog 26 #[fl x, fl y] w fun e w' => e = .returned (fl r) ∧ Below w.heap.size w w' := by
  have st := st_fl
  have k := fun w => run_float_arith (P := Try.prog) w .sub 22 .f64 x y r h
  clear h
  go_enter Try.func26, Try.ntmps26
  go_wp2_with (go_at_call 20; refine (new_c _ _).mono ?_; rintro e w' ⟨rfl, rfl⟩)
  refine bodyPost_ret (v := fl r) (by simp [results, Try.results26, go_sem]) rfl ⟨rfl, ?_⟩
  repeat (first | exact Below.refl _ _ | refine Below.alloc ?_ (by simp <;> omega) _)
set_option maxRecDepth 100000 in
theorem mul_c (x y r : Nat) (w : World) (h : floatBits .mul .f64 x y = some r) :
    Calls Try.prog 36 #[fl x, fl y] w fun e w' => e = .returned (fl r) ∧ Below w.heap.size w w' := by
  have st := st_fl
  have k := fun w => run_float_arith (P := Try.prog) w .mul 22 .f64 x y r h
  clear h
  go_enter Try.func36, Try.ntmps36
  go_wp2_with (go_at_call 20; refine (new_c _ _).mono ?_; rintro e w' ⟨rfl, rfl⟩)
  refine bodyPost_ret (v := fl r) (by simp [results, Try.results36, go_sem]) rfl ⟨rfl, ?_⟩
  repeat (first | exact Below.refl _ _ | refine Below.alloc ?_ (by simp <;> omega) _)
set_option maxRecDepth 100000 in
theorem div_c (x y r : Nat) (w : World) (h : floatBits .quo .f64 x y = some r) :
    Calls Try.prog 34 #[fl x, fl y] w fun e w' => e = .returned (fl r) ∧ Below w.heap.size w w' := by
  have st := st_fl
  have k := fun w => run_float_arith (P := Try.prog) w .quo 22 .f64 x y r h
  clear h
  go_enter Try.func34, Try.ntmps34
  go_wp2_with (go_at_call 20; refine (new_c _ _).mono ?_; rintro e w' ⟨rfl, rfl⟩)
  refine bodyPost_ret (v := fl r) (by simp [results, Try.results34, go_sem]) rfl ⟨rfl, ?_⟩
  repeat (first | exact Below.refl _ _ | refine Below.alloc ?_ (by simp <;> omega) _)
set_option maxRecDepth 100000 in
theorem addK_c (x y r : Nat) (w : World) (h : floatBits .add .f64 x y = some r) :
    Calls Try.prog 31 #[fl x, .float .f64 y] w fun e w' => e = .returned (fl r) ∧ Below w.heap.size w w' := by
  have st := st_fl
  have k := fun w => run_float_arith (P := Try.prog) w .add 22 .f64 x y r h
  clear h
  go_enter Try.func31, Try.ntmps31
  go_wp2_with (go_at_call 20; refine (new_c _ _).mono ?_; rintro e w' ⟨rfl, rfl⟩)
  refine bodyPost_ret (v := fl r) (by simp [results, Try.results31, go_sem]) rfl ⟨rfl, ?_⟩
  repeat (first | exact Below.refl _ _ | refine Below.alloc ?_ (by simp <;> omega) _)
set_option maxRecDepth 100000 in
theorem subK_c (x y r : Nat) (w : World) (h : floatBits .sub .f64 x y = some r) :
    Calls Try.prog 46 #[fl x, .float .f64 y] w fun e w' => e = .returned (fl r) ∧ Below w.heap.size w w' := by
  have st := st_fl
  have k := fun w => run_float_arith (P := Try.prog) w .sub 22 .f64 x y r h
  clear h
  go_enter Try.func46, Try.ntmps46
  go_wp2_with (go_at_call 20; refine (new_c _ _).mono ?_; rintro e w' ⟨rfl, rfl⟩)
  refine bodyPost_ret (v := fl r) (by simp [results, Try.results46, go_sem]) rfl ⟨rfl, ?_⟩
  repeat (first | exact Below.refl _ _ | refine Below.alloc ?_ (by simp <;> omega) _)
set_option maxRecDepth 100000 in
theorem mulK_c (x y r : Nat) (w : World) (h : floatBits .mul .f64 x y = some r) :
    Calls Try.prog 28 #[fl x, .float .f64 y] w fun e w' => e = .returned (fl r) ∧ Below w.heap.size w w' := by
  have st := st_fl
  have k := fun w => run_float_arith (P := Try.prog) w .mul 22 .f64 x y r h
  clear h
  go_enter Try.func28, Try.ntmps28
  go_wp2_with (go_at_call 20; refine (new_c _ _).mono ?_; rintro e w' ⟨rfl, rfl⟩)
  refine bodyPost_ret (v := fl r) (by simp [results, Try.results28, go_sem]) rfl ⟨rfl, ?_⟩
  repeat (first | exact Below.refl _ _ | refine Below.alloc ?_ (by simp <;> omega) _)
set_option maxRecDepth 100000 in
theorem divK_c (x y r : Nat) (w : World) (h : floatBits .quo .f64 x y = some r) :
    Calls Try.prog 33 #[fl x, .float .f64 y] w fun e w' => e = .returned (fl r) ∧ Below w.heap.size w w' := by
  have st := st_fl
  have k := fun w => run_float_arith (P := Try.prog) w .quo 22 .f64 x y r h
  clear h
  go_enter Try.func33, Try.ntmps33
  go_wp2_with (go_at_call 20; refine (new_c _ _).mono ?_; rintro e w' ⟨rfl, rfl⟩)
  refine bodyPost_ret (v := fl r) (by simp [results, Try.results33, go_sem]) rfl ⟨rfl, ?_⟩
  repeat (first | exact Below.refl _ _ | refine Below.alloc ?_ (by simp <;> omega) _)
end Go.Proofs.Ytanaamlkiackbaa

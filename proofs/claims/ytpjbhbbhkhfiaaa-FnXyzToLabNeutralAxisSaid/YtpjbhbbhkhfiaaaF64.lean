/- The contracts of the methods of helpers.F64 that these proofs call: what each returns, as bits; of the memory that was there nothing turns. -/
import Derived.Test.YtpjbhbbhkhfiaaaRows
import Derived.WalkKit
import Derived.ProofKit
import Derived.OpenShut
import Derived.WalkLawsBesides
import Derived.Laws.FloatArith
import Derived.Lib.Hide
import Derived.Below
namespace Go.Proofs.Ytpjbhbbhkhfiaaa
open Go.RowKit
/-- a float in its wrapper -/
abbrev fl (x : Nat) : Value := .agg #[.float .f64 x]
theorem st_fl (a : Addr) (k : FloatKind) (n : Nat) (m) (w : World) : (store a (.float k n) m).run Try.prog w = stored Try.prog w a (.float k n) m := run_store Try.prog w a _ m rfl
theorem new_c (f : Nat) (w : World) :
    Calls Try.prog 14 #[.float .f64 f] w fun e w' => e = .returned (fl f) ∧ w.alloc (.cells #[.float .f64 f] 30) = w' := by
  have st := st_fl
  go_enter Try.func14, Try.ntmps14
  go_wp2
  exact bodyPost_ret (v := fl f) (by simp [results, Try.results14, go_sem]) rfl ⟨rfl, rfl⟩
theorem val_c (f : Nat) (w : World) :
    Calls Try.prog 15 #[fl f] w fun e w' => e = .returned (.float .f64 f) ∧ w.alloc (.cells #[.float .f64 f] 30) = w' := by
  go_enter Try.func15, Try.ntmps15
  go_wp2
  go_ret
  exact ⟨rfl, rfl⟩
set_option maxRecDepth 100000 in
theorem add_c (x y r : Nat) (w : World) (h : floatBits .add .f64 x y = some r) :
    Calls Try.prog 24 #[fl x, fl y] w fun e w' => e = .returned (fl r) ∧ Below w.heap.size w w' := by
  have st := st_fl
  have k := fun w => run_float_arith (P := Try.prog) w .add 22 .f64 x y r h
  clear h
  go_enter Try.func24, Try.ntmps24
  go_wp2_with (go_at_call 14; refine (new_c _ _).mono ?_; rintro e w' ⟨rfl, rfl⟩)
  refine bodyPost_ret (v := fl r) (by simp [results, Try.results24, go_sem]) rfl ⟨rfl, ?_⟩
  repeat (first | exact Below.refl _ _ | refine Below.alloc ?_ (by simp <;> omega) _)
set_option maxRecDepth 100000 in
theorem sub_c (x y r : Nat) (w : World) (h : floatBits .sub .f64 x y = some r) :
    Calls Try.prog 23 #[fl x, fl y] w fun e w' => e = .returned (fl r) ∧ Below w.heap.size w w' := by
  have st := st_fl
  have k := fun w => run_float_arith (P := Try.prog) w .sub 22 .f64 x y r h
  clear h
  go_enter Try.func23, Try.ntmps23
  go_wp2_with (go_at_call 14; refine (new_c _ _).mono ?_; rintro e w' ⟨rfl, rfl⟩)
  refine bodyPost_ret (v := fl r) (by simp [results, Try.results23, go_sem]) rfl ⟨rfl, ?_⟩
  repeat (first | exact Below.refl _ _ | refine Below.alloc ?_ (by simp <;> omega) _)
set_option maxRecDepth 100000 in
theorem addK_c (x y r : Nat) (w : World) (h : floatBits .add .f64 x y = some r) :
    Calls Try.prog 21 #[fl x, .float .f64 y] w fun e w' => e = .returned (fl r) ∧ Below w.heap.size w w' := by
  have st := st_fl
  have k := fun w => run_float_arith (P := Try.prog) w .add 22 .f64 x y r h
  clear h
  go_enter Try.func21, Try.ntmps21
  go_wp2_with (go_at_call 14; refine (new_c _ _).mono ?_; rintro e w' ⟨rfl, rfl⟩)
  refine bodyPost_ret (v := fl r) (by simp [results, Try.results21, go_sem]) rfl ⟨rfl, ?_⟩
  repeat (first | exact Below.refl _ _ | refine Below.alloc ?_ (by simp <;> omega) _)
set_option maxRecDepth 100000 in
theorem subK_c (x y r : Nat) (w : World) (h : floatBits .sub .f64 x y = some r) :
    Calls Try.prog 22 #[fl x, .float .f64 y] w fun e w' => e = .returned (fl r) ∧ Below w.heap.size w w' := by
  have st := st_fl
  have k := fun w => run_float_arith (P := Try.prog) w .sub 22 .f64 x y r h
  clear h
  go_enter Try.func22, Try.ntmps22
  go_wp2_with (go_at_call 14; refine (new_c _ _).mono ?_; rintro e w' ⟨rfl, rfl⟩)
  refine bodyPost_ret (v := fl r) (by simp [results, Try.results22, go_sem]) rfl ⟨rfl, ?_⟩
  repeat (first | exact Below.refl _ _ | refine Below.alloc ?_ (by simp <;> omega) _)
set_option maxRecDepth 100000 in
theorem mulK_c (x y r : Nat) (w : World) (h : floatBits .mul .f64 x y = some r) :
    Calls Try.prog 20 #[fl x, .float .f64 y] w fun e w' => e = .returned (fl r) ∧ Below w.heap.size w w' := by
  have st := st_fl
  have k := fun w => run_float_arith (P := Try.prog) w .mul 22 .f64 x y r h
  clear h
  go_enter Try.func20, Try.ntmps20
  go_wp2_with (go_at_call 14; refine (new_c _ _).mono ?_; rintro e w' ⟨rfl, rfl⟩)
  refine bodyPost_ret (v := fl r) (by simp [results, Try.results20, go_sem]) rfl ⟨rfl, ?_⟩
  repeat (first | exact Below.refl _ _ | refine Below.alloc ?_ (by simp <;> omega) _)
set_option maxRecDepth 100000 in
theorem divK_c (x y r : Nat) (w : World) (h : floatBits .quo .f64 x y = some r) :
    Calls Try.prog 19 #[fl x, .float .f64 y] w fun e w' => e = .returned (fl r) ∧ Below w.heap.size w w' := by
  have st := st_fl
  have k := fun w => run_float_arith (P := Try.prog) w .quo 22 .f64 x y r h
  clear h
  go_enter Try.func19, Try.ntmps19
  go_wp2_with (go_at_call 14; refine (new_c _ _).mono ?_; rintro e w' ⟨rfl, rfl⟩)
  refine bodyPost_ret (v := fl r) (by simp [results, Try.results19, go_sem]) rfl ⟨rfl, ?_⟩
  repeat (first | exact Below.refl _ _ | refine Below.alloc ?_ (by simp <;> omega) _)
end Go.Proofs.Ytpjbhbbhkhfiaaa

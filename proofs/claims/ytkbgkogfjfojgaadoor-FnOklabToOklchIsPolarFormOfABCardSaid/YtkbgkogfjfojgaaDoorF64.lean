/- The contracts of the methods of helpers.F64 that these proofs call: what each returns, as bits; of the memory that was there nothing turns. -/
import Derived.Test.YtkbgkogfjfojgaaDoorRows
import Derived.WalkKit
import Derived.ProofKit
import Derived.OpenShut
import Derived.WalkLawsBesides
import Derived.Laws.FloatArith
import Derived.Lib.Hide
import Derived.Below
namespace Go.Proofs.YtkbgkogfjfojgaaDoor
open Go.RowKit
/-- a float in its wrapper -/
abbrev fl (x : Nat) : Value := .agg #[.float .f64 x]
theorem st_fl (a : Addr) (k : FloatKind) (n : Nat) (m) (w : World) : (store a (.float k n) m).run Tryd.prog w = stored Tryd.prog w a (.float k n) m := run_store Tryd.prog w a _ m rfl
theorem new_c (f : Nat) (w : World) :
    Calls Tryd.prog 10 #[.float .f64 f] w fun e w' => e = .returned (fl f) ∧ w.alloc (.cells #[.float .f64 f] 30) = w' := by
  have st := st_fl
  go_enter Tryd.func10, Tryd.ntmps10
  go_wp2
  exact bodyPost_ret (v := fl f) (by simp [results, Tryd.results10, go_sem]) rfl ⟨rfl, rfl⟩
theorem val_c (f : Nat) (w : World) :
    Calls Tryd.prog 11 #[fl f] w fun e w' => e = .returned (.float .f64 f) ∧ w.alloc (.cells #[.float .f64 f] 30) = w' := by
  go_enter Tryd.func11, Tryd.ntmps11
  go_wp2
  go_ret
  exact ⟨rfl, rfl⟩
set_option maxRecDepth 100000 in
theorem add_c (x y r : Nat) (w : World) (h : floatBits .add .f64 x y = some r) :
    Calls Tryd.prog 19 #[fl x, fl y] w fun e w' => e = .returned (fl r) ∧ Below w.heap.size w w' := by
  have st := st_fl
  have k := fun w => run_float_arith (P := Tryd.prog) w .add 22 .f64 x y r h
  clear h
  go_enter Tryd.func19, Tryd.ntmps19
  go_wp2_with (go_at_call 10; refine (new_c _ _).mono ?_; rintro e w' ⟨rfl, rfl⟩)
  refine bodyPost_ret (v := fl r) (by simp [results, Tryd.results19, go_sem]) rfl ⟨rfl, ?_⟩
  repeat (first | exact Below.refl _ _ | refine Below.alloc ?_ (by simp <;> omega) _)
set_option maxRecDepth 100000 in
theorem mul_c (x y r : Nat) (w : World) (h : floatBits .mul .f64 x y = some r) :
    Calls Tryd.prog 22 #[fl x, fl y] w fun e w' => e = .returned (fl r) ∧ Below w.heap.size w w' := by
  have st := st_fl
  have k := fun w => run_float_arith (P := Tryd.prog) w .mul 22 .f64 x y r h
  clear h
  go_enter Tryd.func22, Tryd.ntmps22
  go_wp2_with (go_at_call 10; refine (new_c _ _).mono ?_; rintro e w' ⟨rfl, rfl⟩)
  refine bodyPost_ret (v := fl r) (by simp [results, Tryd.results22, go_sem]) rfl ⟨rfl, ?_⟩
  repeat (first | exact Below.refl _ _ | refine Below.alloc ?_ (by simp <;> omega) _)
set_option maxRecDepth 100000 in
theorem addK_c (x y r : Nat) (w : World) (h : floatBits .add .f64 x y = some r) :
    Calls Tryd.prog 17 #[fl x, .float .f64 y] w fun e w' => e = .returned (fl r) ∧ Below w.heap.size w w' := by
  have st := st_fl
  have k := fun w => run_float_arith (P := Tryd.prog) w .add 22 .f64 x y r h
  clear h
  go_enter Tryd.func17, Tryd.ntmps17
  go_wp2_with (go_at_call 10; refine (new_c _ _).mono ?_; rintro e w' ⟨rfl, rfl⟩)
  refine bodyPost_ret (v := fl r) (by simp [results, Tryd.results17, go_sem]) rfl ⟨rfl, ?_⟩
  repeat (first | exact Below.refl _ _ | refine Below.alloc ?_ (by simp <;> omega) _)
set_option maxRecDepth 100000 in
theorem mulK_c (x y r : Nat) (w : World) (h : floatBits .mul .f64 x y = some r) :
    Calls Tryd.prog 16 #[fl x, .float .f64 y] w fun e w' => e = .returned (fl r) ∧ Below w.heap.size w w' := by
  have st := st_fl
  have k := fun w => run_float_arith (P := Tryd.prog) w .mul 22 .f64 x y r h
  clear h
  go_enter Tryd.func16, Tryd.ntmps16
  go_wp2_with (go_at_call 10; refine (new_c _ _).mono ?_; rintro e w' ⟨rfl, rfl⟩)
  refine bodyPost_ret (v := fl r) (by simp [results, Tryd.results16, go_sem]) rfl ⟨rfl, ?_⟩
  repeat (first | exact Below.refl _ _ | refine Below.alloc ?_ (by simp <;> omega) _)
end Go.Proofs.YtkbgkogfjfojgaaDoor

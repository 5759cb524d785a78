/- The contracts of helpers.F64's methods at every argument: what is no number is drawn by the model. -/
import Derived.Test.YtkbgkogfjfojgaaDoorF64
import Derived.Test.YtkbgkogfjfojgaaDoorFl2
import Derived.Laws.Externs
namespace Go.Proofs.YtkbgkogfjfojgaaDoor
open Go.RowKit Flt Ieee
def RP (R : Nat → Prop) (w : World) (e : Ending) (w' : World) : Prop := ∃ r, R r ∧ e = .returned (fl r) ∧ Below w.heap.size w w'
def RPf (R : Nat → Prop) (w : World) (e : Ending) (w' : World) : Prop := ∃ r, R r ∧ e = .returned (.float .f64 r) ∧ Below w.heap.size w w'
def BR (op : BinOp) (x y r : Nat) : Prop := floatBits op .f64 x y = some r ∨ (floatBits op .f64 x y = none ∧ isNan r)
theorem nan_g (op : BinOp) (t : TypeId) (x y : Nat) (ho : op = .add ∨ op = .sub ∨ op = .mul ∨ op = .quo) (h : floatBits op .f64 x y = none) : ∃ g : World → Nat, (∀ w, (binOp op t (.float .f64 x) (.float .f64 y)).run Tryd.prog w = .ok (.float .f64 (g w)) w.drew) ∧ ∀ w, isNan (g w) :=
  ⟨fun w => (nan_run (P := Tryd.prog) w op t x y ho h).choose, fun w => (nan_run (P := Tryd.prog) w op t x y ho h).choose_spec.1, fun w => (nan_run (P := Tryd.prog) w op t x y ho h).choose_spec.2.1⟩
set_option maxRecDepth 100000 in
theorem add_r (x y : Nat) (w : World) : Calls Tryd.prog 19 #[fl x, fl y] w (RP (BR .add x y) w) := by
  cases h : floatBits .add .f64 x y with
  | some r => exact (add_c x y r w h).mono fun e w' ⟨he, hb⟩ => ⟨r, Or.inl h, he, hb⟩
  | none =>
    have st := st_fl
    obtain ⟨g, k, hn⟩ := nan_g .add 22 x y (by simp) h
    have H := Lib.hid (And.intro h hn)
    clear h hn
    go_enter Tryd.func19, Tryd.ntmps19
    go_wp2_with (go_at_call 10; refine (new_c _ _).mono ?_; rintro e w' ⟨rfl, rfl⟩)
    refine bodyPost_ret (by simp [results, Tryd.results19, go_sem]; rfl) rfl ⟨_, Or.inr ⟨H.out.1, H.out.2 _⟩, rfl, ?_⟩
    repeat (first | exact Below.refl _ _ | refine Below.drew ?_ | refine Below.alloc ?_ (by simp <;> omega) _)
set_option maxRecDepth 100000 in
theorem mul_r (x y : Nat) (w : World) : Calls Tryd.prog 22 #[fl x, fl y] w (RP (BR .mul x y) w) := by
  cases h : floatBits .mul .f64 x y with
  | some r => exact (mul_c x y r w h).mono fun e w' ⟨he, hb⟩ => ⟨r, Or.inl h, he, hb⟩
  | none =>
    have st := st_fl
    obtain ⟨g, k, hn⟩ := nan_g .mul 22 x y (by simp) h
    have H := Lib.hid (And.intro h hn)
    clear h hn
    go_enter Tryd.func22, Tryd.ntmps22
    go_wp2_with (go_at_call 10; refine (new_c _ _).mono ?_; rintro e w' ⟨rfl, rfl⟩)
    refine bodyPost_ret (by simp [results, Tryd.results22, go_sem]; rfl) rfl ⟨_, Or.inr ⟨H.out.1, H.out.2 _⟩, rfl, ?_⟩
    repeat (first | exact Below.refl _ _ | refine Below.drew ?_ | refine Below.alloc ?_ (by simp <;> omega) _)
set_option maxRecDepth 100000 in
theorem addK_r (x y : Nat) (w : World) : Calls Tryd.prog 17 #[fl x, .float .f64 y] w (RP (BR .add x y) w) := by
  cases h : floatBits .add .f64 x y with
  | some r => exact (addK_c x y r w h).mono fun e w' ⟨he, hb⟩ => ⟨r, Or.inl h, he, hb⟩
  | none =>
    have st := st_fl
    obtain ⟨g, k, hn⟩ := nan_g .add 22 x y (by simp) h
    have H := Lib.hid (And.intro h hn)
    clear h hn
    go_enter Tryd.func17, Tryd.ntmps17
    go_wp2_with (go_at_call 10; refine (new_c _ _).mono ?_; rintro e w' ⟨rfl, rfl⟩)
    refine bodyPost_ret (by simp [results, Tryd.results17, go_sem]; rfl) rfl ⟨_, Or.inr ⟨H.out.1, H.out.2 _⟩, rfl, ?_⟩
    repeat (first | exact Below.refl _ _ | refine Below.drew ?_ | refine Below.alloc ?_ (by simp <;> omega) _)
set_option maxRecDepth 100000 in
theorem mulK_r (x y : Nat) (w : World) : Calls Tryd.prog 16 #[fl x, .float .f64 y] w (RP (BR .mul x y) w) := by
  cases h : floatBits .mul .f64 x y with
  | some r => exact (mulK_c x y r w h).mono fun e w' ⟨he, hb⟩ => ⟨r, Or.inl h, he, hb⟩
  | none =>
    have st := st_fl
    obtain ⟨g, k, hn⟩ := nan_g .mul 22 x y (by simp) h
    have H := Lib.hid (And.intro h hn)
    clear h hn
    go_enter Tryd.func16, Tryd.ntmps16
    go_wp2_with (go_at_call 10; refine (new_c _ _).mono ?_; rintro e w' ⟨rfl, rfl⟩)
    refine bodyPost_ret (by simp [results, Tryd.results16, go_sem]; rfl) rfl ⟨_, Or.inr ⟨H.out.1, H.out.2 _⟩, rfl, ?_⟩
    repeat (first | exact Below.refl _ _ | refine Below.drew ?_ | refine Below.alloc ?_ (by simp <;> omega) _)
end Go.Proofs.YtkbgkogfjfojgaaDoor

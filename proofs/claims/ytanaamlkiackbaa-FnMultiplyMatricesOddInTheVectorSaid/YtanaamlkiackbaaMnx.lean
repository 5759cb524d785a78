/- math.Min and math.Max, and the helpers over them: what each returns; of the memory that was there nothing turns. -/
import Derived.Test.YtanaamlkiackbaaCL
import Derived.Test.YtanaamlkiackbaaFl2
import Derived.Test.YtanaamlkiackbaaRel
set_option linter.unusedSimpArgs false
set_option linter.unusedVariables false
namespace Go.Proofs.Ytanaamlkiackbaa
open Go.RowKit Go.Sort
open Flt Ieee
theorem isNan_iff (d : Datum) : d.isNaN = true ↔ ∃ s t, d = .nan s t := by cases d <;> simp [Datum.isNaN]
theorem pick_of {neg : Bool} {win : Ordering} {name : String} (P : Program) (hwin : win ≠ .eq) (x y : Nat) : ∃ r, (∀ w, (Extern.MathDim.pick name neg win #[.float .f64 x, .float .f64 y]).run P w = .ok (.float .f64 r) w) ∧
    (fin x → fin y → (r = x ∨ r = y) ∧ (((r = x ∧ (F.order x y = some win ∨ F.order x y = some .eq)) ∨ (r = y ∧ F.order x y ≠ some win)))) := by
  unfold Extern.MathDim.pick
  refine ⟨_, fun w => rfl, fun hx hy => ?_⟩
  have e1 : FloatKind.f64.decode x = F.read x := rfl
  have e2 : FloatKind.f64.decode y = F.read y := rfl
  have eo : F.order x y = (F.read x).order (F.read y) := rfl
  rw [e1, e2, eo]
  unfold fin at hx hy
  generalize F.read x = a at *
  generalize F.read y = b at *
  cases a with
  | infinity s => exact hx.elim
  | nan s t => exact hx.elim
  | number s m p =>
    cases b with
    | infinity s => exact hy.elim
    | nan s t => exact hy.elim
    | number t n q =>
      have i1 : (Datum.number s m p == Datum.infinity neg) = false := by simp
      have i2 : (Datum.number t n q == Datum.infinity neg) = false := by simp
      rw [i1, i2]
      simp only [Bool.or_self, Bool.false_eq_true, if_false, Datum.isNaN]
      split
      · rename_i hz
        have hz' : m = 0 ∧ n = 0 := by
          cases m <;> cases n <;> simp_all [Datum.isZero]
        obtain ⟨rfl, rfl⟩ := hz'
        have ho : (Datum.number s 0 p).order (Datum.number t 0 q) = some .eq := by
          simp [Datum.order, signed]
        split
        · exact ⟨Or.inl rfl, Or.inl ⟨rfl, Or.inr ho⟩⟩
        · exact ⟨Or.inr rfl, Or.inr ⟨rfl, by rw [ho]; intro h; cases h; exact hwin rfl⟩⟩
      · split
        · rename_i h
          exact ⟨Or.inl rfl, Or.inl ⟨rfl, Or.inl (by simpa using h)⟩⟩
        · rename_i h
          exact ⟨Or.inr rfl, Or.inr ⟨rfl, by simpa using h⟩⟩
theorem run_min (x y : Nat) : ∃ r, (∀ w, (callFunc 56 #[.float .f64 x, .float .f64 y]).run Try.prog w = .ok (.value (.float .f64 r)) w) ∧ (fin x → fin y → (r = x ∨ r = y) ∧ val r ≤ val x ∧ val r ≤ val y) := by
  obtain ⟨r, h1, h2⟩ := pick_of (name := "math.archMin") (neg := true) (win := .lt) Try.prog (by decide) x y
  refine ⟨r, fun w => ?_, fun hx hy => ?_⟩
  · rw [run_callFunc_extern (e := Extern.MathDim.pick "math.archMin" true .lt) Try.func56 (by kernel_rfl) (by kernel_rfl) (by kernel_rfl) (by kernel_rfl), h1]
    rfl
  · obtain ⟨h3, h4⟩ := h2 hx hy
    obtain ⟨o1, o2, o3⟩ := order_val x y hx hy
    refine ⟨h3, ?_⟩
    rcases h4 with ⟨rfl, h⟩ | ⟨rfl, h⟩
    · rcases h with h | h
      · have := o1.1 h; constructor <;> grind
      · have := o2.1 h; constructor <;> grind
    · have : ¬ val x < val r := fun hh => h (o1.2 hh)
      constructor <;> grind
theorem run_max (x y : Nat) : ∃ r, (∀ w, (callFunc 54 #[.float .f64 x, .float .f64 y]).run Try.prog w = .ok (.value (.float .f64 r)) w) ∧ (fin x → fin y → (r = x ∨ r = y) ∧ val x ≤ val r ∧ val y ≤ val r) := by
  obtain ⟨r, h1, h2⟩ := pick_of (name := "math.archMax") (neg := false) (win := .gt) Try.prog (by decide) x y
  refine ⟨r, fun w => ?_, fun hx hy => ?_⟩
  · rw [run_callFunc_extern (e := Extern.MathDim.pick "math.archMax" false .gt) Try.func54 (by kernel_rfl) (by kernel_rfl) (by kernel_rfl) (by kernel_rfl), h1]
    rfl
  · obtain ⟨h3, h4⟩ := h2 hx hy
    obtain ⟨o1, o2, o3⟩ := order_val x y hx hy
    refine ⟨h3, ?_⟩
    rcases h4 with ⟨rfl, h⟩ | ⟨rfl, h⟩
    · rcases h with h | h
      · have := o3.1 h; constructor <;> grind
      · have := o2.1 h; constructor <;> grind
    · have : ¬ val r < val x := fun hh => h (o3.2 hh)
      constructor <;> grind
noncomputable def minB (x y : Nat) : Nat := Classical.choose (run_min x y)
noncomputable def maxB (x y : Nat) : Nat := Classical.choose (run_max x y)
theorem minB_run (x y : Nat) (w : World) : (callFunc 56 #[.float .f64 x, .float .f64 y]).run Try.prog w = .ok (.value (.float .f64 (minB x y))) w := (Classical.choose_spec (run_min x y)).1 w
theorem maxB_run (x y : Nat) (w : World) : (callFunc 54 #[.float .f64 x, .float .f64 y]).run Try.prog w = .ok (.value (.float .f64 (maxB x y))) w := (Classical.choose_spec (run_max x y)).1 w
theorem minB_val {x y : Nat} (hx : fin x) (hy : fin y) : (minB x y = x ∨ minB x y = y) ∧ val (minB x y) ≤ val x ∧ val (minB x y) ≤ val y := (Classical.choose_spec (run_min x y)).2 hx hy
theorem maxB_val {x y : Nat} (hx : fin x) (hy : fin y) : (maxB x y = x ∨ maxB x y = y) ∧ val x ≤ val (maxB x y) ∧ val y ≤ val (maxB x y) := (Classical.choose_spec (run_max x y)).2 hx hy
theorem mmin_c (x y : Nat) (w : World) : Calls Try.prog 49 #[.float .f64 x, .float .f64 y] w fun e w' => e = .returned (.float .f64 (minB x y)) ∧ w = w' := by
  have k := minB_run
  go_enter Try.func49, Try.ntmps49
  go_wp2
  go_ret
  exact ⟨rfl, rfl⟩
theorem mmax_c (x y : Nat) (w : World) : Calls Try.prog 48 #[.float .f64 x, .float .f64 y] w fun e w' => e = .returned (.float .f64 (maxB x y)) ∧ w = w' := by
  have k := maxB_run
  go_enter Try.func48, Try.ntmps48
  go_wp2
  go_ret
  exact ⟨rfl, rfl⟩
theorem mminB_c (x y : Nat) (w : World) : Calls Try.prog 49 #[.float .f64 x, .float .f64 y] w fun e w' => e = .returned (.float .f64 (minB x y)) ∧ Below w.heap.size w w' :=
  (mmin_c x y w).mono fun e w' ⟨he, hw⟩ => ⟨he, by rw [← hw]; exact Below.refl _ _⟩
theorem mmaxB_c (x y : Nat) (w : World) : Calls Try.prog 48 #[.float .f64 x, .float .f64 y] w fun e w' => e = .returned (.float .f64 (maxB x y)) ∧ Below w.heap.size w w' :=
  (mmax_c x y w).mono fun e w' ⟨he, hw⟩ => ⟨he, by rw [← hw]; exact Below.refl _ _⟩
theorem newB_c (f : Nat) (w : World) : Calls Try.prog 20 #[.float .f64 f] w fun e w' => e = .returned (fl f) ∧ Below w.heap.size w w' :=
  (new_c f w).mono fun e w' ⟨he, hw⟩ => ⟨he, by rw [← hw]; exact (Below.refl _ _).alloc (Nat.le_refl _) _⟩
theorem valB_c (f : Nat) (w : World) : Calls Try.prog 21 #[fl f] w fun e w' => e = .returned (.float .f64 f) ∧ Below w.heap.size w w' :=
  (val_c f w).mono fun e w' ⟨he, hw⟩ => ⟨he, by rw [← hw]; exact (Below.refl _ _).alloc (Nat.le_refl _) _⟩
end Go.Proofs.Ytanaamlkiackbaa

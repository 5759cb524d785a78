/- The hue in degrees, and its angle again. -/
import Derived.Test.YtkbgkogfjfojgaaDoorAn2
set_option linter.unusedSimpArgs false
set_option linter.unusedVariables false
set_option maxRecDepth 100000
namespace Go.Proofs.YtkbgkogfjfojgaaDoor
open Go.RowKit
open Ieee Go
open Flt
open Pc (atanP p4 Br)
theorem cDeg : Flt.fin 4633260481411531256 ∧ val 4633260481411531256 = 1007958012753983 / 17592186044416 := const_val (by decide +kernel) (by decide +kernel)
theorem cRad : Flt.fin 4580687790476533049 ∧ val 4580687790476533049 = 5030569068109113 / 288230376151711744 := const_val (by decide +kernel) (by decide +kernel)
theorem c360 : Flt.fin 4645040803167600640 ∧ val 4645040803167600640 = 360 := const_val (by decide +kernel) (by decide +kernel)
/-- the hue H made of the angle w -/
def HueR (w deg H : Nat) : Prop := floatBits .mul .f64 w 4633260481411531256 = some deg ∧ ((ltB deg 0 = false ∧ H = deg) ∨ (ltB deg 0 = true ∧ floatBits .add .f64 deg 4645040803167600640 = some H))
def Signs (s m sx sy : Rat) : Prop := (s = 1 ∧ m = 0 ∧ sx = 1 ∧ sy = 1) ∨ (s = -1 ∧ m = 4 ∧ sx = -1 ∧ sy = 1) ∨ (s = 1 ∧ m = 4 ∧ sx = -1 ∧ sy = -1) ∨ (s = -1 ∧ m = 8 ∧ sx = 1 ∧ sy = -1)
theorem mul_signs {x y r : Nat} (fx : Flt.fin x) (fy : Flt.fin y) {A : Rat} (hA : Abs (val x * val y) A) (hs : A ≤ 10 ^ 14) (h : floatBits .mul .f64 x y = some r) : ∀ z, Flt.fin z → (val x * val y ≤ val z → val r ≤ val z) ∧ (val z ≤ val x * val y → val z ≤ val r) := by
  obtain ⟨r', e, -, m⟩ := mul_mono x y fx fy (abs_le hA (Rat.le_of_lt (small_lt hs)))
  have := inj_some h e; subst this
  exact m
/-- the degrees back to an angle -/
theorem rad_acc (H : Nat) (fH : Flt.fin H) (h0 : 0 ≤ val H) (h1 : val H ≤ 360) : ∃ rad, floatBits .mul .f64 H 4580687790476533049 = some rad ∧ Flt.fin rad ∧ 0 ≤ val rad ∧ val rad ≤ 63 / 10 ∧ Near (val rad) (val H * (5030569068109113 / 288230376151711744)) (1 / 10 ^ 15) := by
  have hA : Abs (val H) 360 := by unfold Abs; constructor <;> grind
  have hB : Abs (val 4580687790476533049) (1746 / 100000) := by rw [cRad.2]; unfold Abs; constructor <;> grind
  obtain ⟨r, R⟩ := mul_b fH cRad.1 hA hB (by grind)
  have m := mul_signs fH cRad.1 (abs_mul hA hB) (by grind) R.bits 0 zero_fin.1
  obtain ⟨fr, nr⟩ := mul_rel fH cRad.1 7 (by rw [cRad.2]; unfold Abs; constructor <;> grind) (by decide +kernel) (by decide +kernel) R.bits
  rw [cRad.2] at nr m
  rw [zero_fin.2] at m
  have := m.2 (by grind)
  exact ⟨r, R.bits, fr, this, by unfold Near at nr; grind, near_mono nr (by decide +kernel)⟩
theorem hue_acc (w : Nat) (a A B P Q : Rat) (fw : Flt.fin w) (ra : 0 ≤ a ∧ a ≤ 2 * p4) (hQ : Quad (val w) a A B P Q (7 / 10 ^ 15)) : ∃ deg H rad, HueR w deg H ∧ Flt.fin H ∧ 0 ≤ val H ∧ val H ≤ 360 ∧ floatBits .mul .f64 H 4580687790476533049 = some rad ∧ Flt.fin rad ∧ 0 ≤ val rad ∧ val rad ≤ 63 / 10 ∧ ∃ s m sx sy, Signs s m sx sy ∧ Pc.Bd (val rad - (m * p4 + s * a)) (2 / 10 ^ 14) ∧ A = sx * P ∧ B = sy * Q := by
  have hp4 := Pc.p4_bd
  have l260 : (0 : Rat) < 1 / 10 ^ 260 := by decide +kernel
  have b290 : (300 : Rat) ≤ 10 ^ 290 := by decide +kernel
  have lo : (1 : Rat) / 10 ^ 290 ≤ 1 / 10 ^ 260 := by decide +kernel
  have hw : Abs (val w) 4 := by
    rcases hQ with ⟨_, h, _⟩ | ⟨h, _⟩ | ⟨h, _⟩ | ⟨_, h, _⟩ <;> (unfold Near at h; unfold Abs; constructor <;> grind)
  have hK : Abs (val 4633260481411531256) (573 / 10) := by rw [cDeg.2]; unfold Abs; constructor <;> grind
  obtain ⟨deg, D⟩ := mul_b fw cDeg.1 hw hK (by grind)
  have m := mul_signs fw cDeg.1 (abs_mul hw hK) (by grind) D.bits
  obtain ⟨fd, nd⟩ := mul_rel fw cDeg.1 230 (by rw [cDeg.2]; unfold Abs at hw ⊢; constructor <;> grind) (by decide +kernel) (by decide +kernel) D.bits
  have nd' := nd
  rw [cDeg.2] at nd
  have pos : ltB deg 0 = false → 0 ≤ val deg := fun h => by
    refine Rat.not_lt.1 (fun c => ?_)
    have := (ltB_iff fd zero_fin.1).2 (by rw [zero_fin.2]; exact c)
    rw [h] at this; cases this
  have neg : ltB deg 0 = true → val deg < 0 := fun h => by
    have := (ltB_iff fd zero_fin.1).1 h
    rwa [zero_fin.2] at this
  cases hl : ltB deg 0
  · have p0 := pos hl
    obtain ⟨rad, e, fr, r0, r1, nr⟩ := rad_acc deg fd p0 (by unfold Near at nd; unfold Abs at hw; grind)
    refine ⟨deg, deg, rad, ⟨D.bits, .inl ⟨hl, rfl⟩⟩, fd, p0, by unfold Near at nd; unfold Abs at hw; grind, e, fr, r0, r1, ?_⟩
    rcases hQ with ⟨h0, h, hA, hB⟩ | ⟨h, hA, hB⟩ | ⟨h, hA, hB⟩ | ⟨h0, h, hA, hB⟩
    · refine ⟨1, 0, 1, 1, .inl ⟨rfl, rfl, rfl, rfl⟩, ?_, by rw [hA]; grind, by rw [hB]; grind⟩
      unfold Near at *; unfold Pc.Bd; unfold Abs at hw; constructor <;> grind
    · refine ⟨-1, 4, -1, 1, .inr (.inl ⟨rfl, rfl, rfl, rfl⟩), ?_, by rw [hA]; grind, by rw [hB]; grind⟩
      unfold Near at *; unfold Pc.Bd; unfold Abs at hw; constructor <;> grind
    · exfalso; unfold Near at h nd; grind
    · exfalso
      have nq := (mul_rel fw cDeg.1 (-(val w * (1007958012753983 / 17592186044416))) (by rw [cDeg.2]; unfold Abs; constructor <;> grind) (by grind) (by unfold Abs at hw; grind) D.bits).2
      rw [cDeg.2] at nq
      unfold Near at nq
      grind
  · have p0 := neg hl
    obtain ⟨H, HH⟩ := add_b fd c360.1 (A := 240) (B := 360) (by clear D hK m nd'; unfold Near at nd; unfold Abs at *; constructor <;> grind) (by rw [c360.2]; unfold Abs; constructor <;> grind) (by grind)
    obtain ⟨H2, e2, -, mono⟩ := add_mono deg 4645040803167600640 fd c360.1 (by
      have := abs_add (A := 240) (B := 360) (show Abs (val deg) 240 by unfold Near at nd; unfold Abs at *; constructor <;> grind) (show Abs (val 4645040803167600640) 360 by rw [c360.2]; unfold Abs; constructor <;> grind)
      exact abs_le this (Rat.le_of_lt (small_lt (by grind))))
    have := inj_some HH.bits e2; subst this
    have up := (mono _ c360.1).1 (by rw [c360.2]; grind)
    rw [c360.2] at up
    obtain ⟨fH, nH⟩ := add_rel fd c360.1 360 (by rw [c360.2]; unfold Near at nd; unfold Abs at *; constructor <;> grind) (by decide +kernel) (by decide +kernel) HH.bits
    rw [c360.2] at nH
    have h0' : 0 ≤ val H := by unfold Near at nH nd; unfold Abs at hw; grind
    obtain ⟨rad, e, fr, r0, r1, nr⟩ := rad_acc H fH h0' up
    refine ⟨deg, H, rad, ⟨D.bits, .inr ⟨hl, HH.bits⟩⟩, fH, h0', up, e, fr, r0, r1, ?_⟩
    rcases hQ with ⟨hw0, h, hA, hB⟩ | ⟨h, hA, hB⟩ | ⟨h, hA, hB⟩ | ⟨hw0, h, hA, hB⟩
    · exfalso
      have := (m 0 zero_fin.1).2 (by rw [zero_fin.2, cDeg.2]; grind)
      rw [zero_fin.2] at this
      grind
    · exfalso; unfold Near at h nd; grind
    · refine ⟨1, 4, -1, -1, .inr (.inr (.inl ⟨rfl, rfl, rfl, rfl⟩)), ?_, by rw [hA]; grind, by rw [hB]; grind⟩
      unfold p4 at *; unfold Near at *; unfold Pc.Bd; unfold Abs at hw; constructor <;> grind
    · refine ⟨-1, 8, 1, -1, .inr (.inr (.inr ⟨rfl, rfl, rfl, rfl⟩)), ?_, by rw [hA]; grind, by rw [hB]; grind⟩
      unfold p4 at *; unfold Near at *; unfold Pc.Bd; unfold Abs at hw; constructor <;> grind
end Go.Proofs.YtkbgkogfjfojgaaDoor

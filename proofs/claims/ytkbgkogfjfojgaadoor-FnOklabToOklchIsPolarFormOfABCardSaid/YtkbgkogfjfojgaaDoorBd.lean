/- Floats with coarse bounds: an operation on bounded numbers is bounded. -/
import Derived.Test.YtkbgkogfjfojgaaDoorFl2
set_option linter.unusedSimpArgs false
set_option linter.unusedVariables false
namespace Go.Proofs.YtkbgkogfjfojgaaDoor.Flt
open Ieee Go
theorem uu_small : uu ≤ 1 / 10 ^ 15 := by rw [uu_val]; decide +kernel
theorem t60 : two 60 = 1152921504606846976 := by unfold two; decide +kernel
theorem t60_lt : two 60 + 1 < two 1022 := by unfold two; decide +kernel
theorem t1022_lt : two 1022 < two 1023 := by unfold two; decide +kernel
/-- the error of one rounding of a number of at most B -/
def er (B : Rat) : Rat := B / 10 ^ 15 + 1 / 10 ^ 300
theorem er_of {B : Rat} (hB : 0 ≤ B) : uu * B + eta ≤ er B := by
  have h1 := Rat.mul_le_mul_of_nonneg_right uu_small hB
  have h2 := eta_small
  have h3 : (1 : Rat) / 10 ^ 320 ≤ 1 / 10 ^ 300 := by decide +kernel
  unfold er
  have h4 : (1 : Rat) / 10 ^ 15 * B = B / 10 ^ 15 := by grind
  rw [h4] at h1
  grind
theorem er3_of {B : Rat} (hB : 0 ≤ B) : 3 * uu * B + eta ≤ er (3 * B) := by
  have := er_of (B := 3 * B) (by grind)
  grind
theorem abs_nonneg {a A : Rat} (h : Abs a A) : 0 ≤ A := by unfold Abs at h; grind
theorem abs_add {a b A B : Rat} (ha : Abs a A) (hb : Abs b B) : Abs (a + b) (A + B) := by unfold Abs at *; constructor <;> grind
theorem abs_sub {a b A B : Rat} (ha : Abs a A) (hb : Abs b B) : Abs (a - b) (A + B) := by unfold Abs at *; constructor <;> grind
theorem abs_le {a A B : Rat} (ha : Abs a A) (h : A ≤ B) : Abs a B := by unfold Abs at *; constructor <;> grind
theorem near_abs {a b A e : Rat} (h : Near a b e) (hb : Abs b A) : Abs a (A + e) := by unfold Near Abs at *; constructor <;> grind
/-- r is x op y, up to an error of e; at most C -/
structure Op1 (op : BinOp) (x y r : Nat) (v e C : Rat) : Prop where
  bits : floatBits op .f64 x y = some r
  fin : fin r
  near : Near (val r) v e
  abs : Abs (val r) C
theorem er_le {B C : Rat} (h : B ≤ C) : er B ≤ er C := by unfold er; have : B / 10 ^ 15 ≤ C / 10 ^ 15 := by grind
                                                          grind
theorem er_half {B : Rat} (h : B ≤ 10 ^ 14) : er B ≤ 1 := by
  unfold er
  have h1 : B / 10 ^ 15 ≤ 1 / 2 := by grind
  have h2 : (1 : Rat) / 10 ^ 300 ≤ 1 / 2 := by decide +kernel
  grind
theorem small_lt {B : Rat} (h : B ≤ 10 ^ 14) : B < two 1022 := by
  have h1 : (10 : Rat) ^ 14 ≤ two 60 := by rw [t60]; decide +kernel
  have := t60_lt
  grind
theorem add_b {x y : Nat} {A B : Rat} (fx : fin x) (fy : fin y) (ha : Abs (val x) A) (hb : Abs (val y) B) (h : A + B ≤ 10 ^ 14) : ∃ r, Op1 .add x y r (val x + val y) (er (A + B)) (A + B + 1) := by
  have hs := abs_add ha hb
  have h0 := abs_nonneg hs
  have hlt := small_lt h
  obtain ⟨r, h1, h2, h3⟩ := add_near x y fx fy (A + B) hs.1 hs.2 (by have := t1022_lt; grind)
  have h4 := near_mono h3 (er_of h0)
  exact ⟨r, h1, h2, h4, abs_le (near_abs h4 hs) (by have := er_half h; grind)⟩
theorem sub_b {x y : Nat} {A B : Rat} (fx : fin x) (fy : fin y) (ha : Abs (val x) A) (hb : Abs (val y) B) (h : A + B ≤ 10 ^ 14) : ∃ r, Op1 .sub x y r (val x - val y) (er (A + B)) (A + B + 1) := by
  have hs := abs_sub ha hb
  have h0 := abs_nonneg hs
  have hlt := small_lt h
  obtain ⟨r, h1, h2, h3⟩ := sub_near x y fx fy (A + B) hs.1 hs.2 (by have := t1022_lt; grind)
  have h4 := near_mono h3 (er_of h0)
  exact ⟨r, h1, h2, h4, abs_le (near_abs h4 hs) (by have := er_half h; grind)⟩
theorem mul_b {x y : Nat} {A B : Rat} (fx : fin x) (fy : fin y) (ha : Abs (val x) A) (hb : Abs (val y) B) (h : A * B ≤ 10 ^ 14) : ∃ r, Op1 .mul x y r (val x * val y) (er (A * B)) (A * B + 1) := by
  have hs := abs_mul ha hb
  have h0 := abs_nonneg hs
  have hlt := small_lt h
  obtain ⟨r, h1, h2, h3⟩ := mul_near x y fx fy (A * B) hs.1 hs.2 (by have := t1022_lt; grind)
  have h4 := near_mono h3 (er_of h0)
  exact ⟨r, h1, h2, h4, abs_le (near_abs h4 hs) (by have := er_half h; grind)⟩
theorem div_b {x y : Nat} {D : Rat} (fx : fin x) (fy : fin y) (h0 : val y ≠ 0) (hd : Abs (val x / val y) D) (h : 3 * D ≤ 10 ^ 14) : ∃ r, Op1 .quo x y r (val x / val y) (er (3 * D)) (D + 1) := by
  have hD := abs_nonneg hd
  have hlt := small_lt (B := D) (by grind)
  obtain ⟨r, h1, h2, h3⟩ := div_near x y fx fy h0 D hd.1 hd.2 hlt
  have h4 := near_mono h3 (er3_of hD)
  exact ⟨r, h1, h2, h4, abs_le (near_abs h4 hd) (by have := er_half h; grind)⟩
end Go.Proofs.YtkbgkogfjfojgaaDoor.Flt

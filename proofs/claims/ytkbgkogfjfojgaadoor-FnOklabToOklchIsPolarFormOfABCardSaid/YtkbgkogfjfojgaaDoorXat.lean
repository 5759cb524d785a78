/- xatan at small numbers: every operation gives a number, and a small one. -/
import Derived.Test.YtkbgkogfjfojgaaDoorBd
set_option linter.unusedSimpArgs false
set_option linter.unusedVariables false
set_option maxRecDepth 100000
namespace Go.Proofs.YtkbgkogfjfojgaaDoor.Flt
open Ieee Go
theorem kP0 : fin 13829429103926125972 ∧ val 13829429103926125972 = -1970461881518437 / 2251799813685248 := const_val (by decide +kernel) (by decide +kernel)
theorem kP1 : fin 13848613196940411002 ∧ val 13848613196940411002 = -2273971201753149 / 140737488355328 := const_val (by decide +kernel) (by decide +kernel)
theorem kP2 : fin 13858350711815275123 ∧ val 13858350711815275123 = -5278258023629427 / 70368744177664 := const_val (by decide +kernel) (by decide +kernel)
theorem kP3 : fin 13861719834326579749 ∧ val 13861719834326579749 = -8647380534934053 / 70368744177664 := const_val (by decide +kernel) (by decide +kernel)
theorem kP4 : fin 13857635882265799822 ∧ val 13857635882265799822 = -2281714237077063 / 35184372088832 := const_val (by decide +kernel) (by decide +kernel)
theorem kQ0 : fin 4627690253511319612 ∧ val 4627690253511319612 = 1749258957297679 / 70368744177664 := const_val (by decide +kernel) (by decide +kernel)
theorem kQ1 : fin 4640010388282866213 ∧ val 4640010388282866213 = 5806371718625829 / 35184372088832 := const_val (by decide +kernel) (by decide +kernel)
theorem kQ2 : fin 4646322940342877755 ∧ val 4646322940342877755 = 7615324151266875 / 17592186044416 := const_val (by decide +kernel) (by decide +kernel)
theorem kQ3 : fin 4647246694406179306 ∧ val 4647246694406179306 = 4269539107284213 / 8796093022208 := const_val (by decide +kernel) (by decide +kernel)
theorem kQ4 : fin 4641049159275471596 ∧ val 4641049159275471596 = 1711285677807803 / 8796093022208 := const_val (by decide +kernel) (by decide +kernel)
theorem low_mul {b z B : Rat} (hb : 0 ≤ b) (hB : Abs b B) (hz : -(1 / 10 ^ 14) ≤ z) (h : B ≤ 10 ^ 14) : -1 ≤ b * z := by
  have h1 := Rat.mul_nonneg hb (show 0 ≤ z + 1 / 10 ^ 14 by grind)
  have h2 : b ≤ 10 ^ 14 := by unfold Abs at hB; grind
  grind
theorem div_small {a b A : Rat} (ha : Abs a A) {L : Rat} (hb : L ≤ b) (h : 0 < L ∧ A ≤ 2 * L) : Abs (a / b) 2 := by
  have hb0 : 0 < b := by grind
  have e : a / b * b = a := Rat.div_mul_cancel (by grind)
  unfold Abs at *
  constructor
  · by_cases c : -2 ≤ a / b
    · exact c
    · have := Rat.mul_pos (show 0 < -2 - a / b by grind) hb0; grind
  · by_cases c : a / b ≤ 2
    · exact c
    · have := Rat.mul_pos (show 0 < a / b - 2 by grind) hb0; grind
/-- what xatan computes -/
def XatP (x r : Nat) : Prop := ∃ z n0 a1 n1 a2 n2 a3 n3 a4 nn b0 m1 b1 m2 b2 m3 b3 m4 b4 t u, floatBits .mul .f64 x x = some z ∧ floatBits .mul .f64 13829429103926125972 z = some n0 ∧ floatBits .add .f64 n0 13848613196940411002 = some a1 ∧ floatBits .mul .f64 a1 z = some n1 ∧ floatBits .add .f64 n1 13858350711815275123 = some a2 ∧ floatBits .mul .f64 a2 z = some n2 ∧ floatBits .add .f64 n2 13861719834326579749 = some a3 ∧ floatBits .mul .f64 a3 z = some n3 ∧ floatBits .add .f64 n3 13857635882265799822 = some a4 ∧ floatBits .mul .f64 z a4 = some nn ∧ floatBits .add .f64 z 4627690253511319612 = some b0 ∧ floatBits .mul .f64 b0 z = some m1 ∧ floatBits .add .f64 m1 4640010388282866213 = some b1 ∧ floatBits .mul .f64 b1 z = some m2 ∧ floatBits .add .f64 m2 4646322940342877755 = some b2 ∧ floatBits .mul .f64 b2 z = some m3 ∧ floatBits .add .f64 m3 4647246694406179306 = some b3 ∧ floatBits .mul .f64 b3 z = some m4 ∧ floatBits .add .f64 m4 4641049159275471596 = some b4 ∧ floatBits .quo .f64 nn b4 = some t ∧ floatBits .mul .f64 x t = some u ∧ floatBits .add .f64 u x = some r
theorem xat_ex (x : Nat) (fx : fin x) (h : Abs (val x) (67 / 100)) : ∃ r, fin r ∧ Abs (val r) 6 ∧ XatP x r := by
  have hz0 : 0 ≤ val x * val x := by have := Rat.mul_nonneg (a := val x) (b := val x); rcases Rat.le_total (a := 0) (b := val x) with h | h; exact Rat.mul_nonneg h h; have := Rat.mul_nonneg (show 0 ≤ -val x by grind) (show 0 ≤ -val x by grind); grind
  obtain ⟨z, Hz⟩ := mul_b fx fx h h (by grind)
  have Bz' : Abs (val z) (1 / 2) := by
    have h1 := abs_mul h h
    have h2 := Hz.near
    have h3 : er (67 / 100 * (67 / 100)) ≤ 1 / 100 := by unfold er; decide +kernel
    unfold Near at h2; unfold Abs at *
    constructor <;> grind
  have lz : -(1 / 10 ^ 14) ≤ val z := by
    have h2 := Hz.near
    have h3 : er (67 / 100 * (67 / 100)) ≤ 1 / 10 ^ 14 := by unfold er; decide +kernel
    unfold Near at h2
    grind
  have Bz := Bz'
  obtain ⟨n0, Hn0⟩ := mul_b kP0.1 Hz.fin (show Abs (val 13829429103926125972) 1 by rw [kP0.2]; unfold Abs; constructor <;> grind) Bz (by grind)
  have Bn0 : Abs (val n0) 2 := abs_le Hn0.abs (by grind)
  obtain ⟨a1, Ha1⟩ := add_b Hn0.fin kP1.1 Bn0 (show Abs (val 13848613196940411002) 17 by rw [kP1.2]; unfold Abs; constructor <;> grind) (by grind)
  have Ba1 : Abs (val a1) 20 := abs_le Ha1.abs (by grind)
  obtain ⟨n1, Hn1⟩ := mul_b Ha1.fin Hz.fin Ba1 Bz (by grind)
  have Bn1 : Abs (val n1) 11 := abs_le Hn1.abs (by grind)
  obtain ⟨a2, Ha2⟩ := add_b Hn1.fin kP2.1 Bn1 (show Abs (val 13858350711815275123) 76 by rw [kP2.2]; unfold Abs; constructor <;> grind) (by grind)
  have Ba2 : Abs (val a2) 88 := abs_le Ha2.abs (by grind)
  obtain ⟨n2, Hn2⟩ := mul_b Ha2.fin Hz.fin Ba2 Bz (by grind)
  have Bn2 : Abs (val n2) 45 := abs_le Hn2.abs (by grind)
  obtain ⟨a3, Ha3⟩ := add_b Hn2.fin kP3.1 Bn2 (show Abs (val 13861719834326579749) 123 by rw [kP3.2]; unfold Abs; constructor <;> grind) (by grind)
  have Ba3 : Abs (val a3) 169 := abs_le Ha3.abs (by grind)
  obtain ⟨n3, Hn3⟩ := mul_b Ha3.fin Hz.fin Ba3 Bz (by grind)
  have Bn3 : Abs (val n3) 86 := abs_le Hn3.abs (by grind)
  obtain ⟨a4, Ha4⟩ := add_b Hn3.fin kP4.1 Bn3 (show Abs (val 13857635882265799822) 65 by rw [kP4.2]; unfold Abs; constructor <;> grind) (by grind)
  have Ba4 : Abs (val a4) 152 := abs_le Ha4.abs (by grind)
  obtain ⟨nn, Hnn⟩ := mul_b Hz.fin Ha4.fin Bz Ba4 (by grind)
  have Bnn : Abs (val nn) 77 := abs_le Hnn.abs (by grind)
  obtain ⟨b0, Hb0⟩ := add_b Hz.fin kQ0.1 Bz (show Abs (val 4627690253511319612) 25 by rw [kQ0.2]; unfold Abs; constructor <;> grind) (by grind)
  have Bb0 : Abs (val b0) 27 := abs_le Hb0.abs (by grind)
  have lb0 : 20 ≤ val b0 := by
    have h2 := Hb0.near
    have h3 : er ((1 / 2) + 25) ≤ 1 := er_half (by grind)
    rw [kQ0.2] at h2; unfold Near at h2; grind
  obtain ⟨m1, Hm1⟩ := mul_b Hb0.fin Hz.fin Bb0 Bz (by grind)
  have Bm1 : Abs (val m1) 15 := abs_le Hm1.abs (by grind)
  have lm1 : -2 ≤ val m1 := by
    have h2 := Hm1.near
    have h3 : er (27 * (1 / 2)) ≤ 1 := er_half (by grind)
    have h4 := low_mul (show 0 ≤ val b0 by grind) Bb0 lz (by grind)
    unfold Near at h2; grind
  obtain ⟨b1, Hb1⟩ := add_b Hm1.fin kQ1.1 Bm1 (show Abs (val 4640010388282866213) 166 by rw [kQ1.2]; unfold Abs; constructor <;> grind) (by grind)
  have Bb1 : Abs (val b1) 182 := abs_le Hb1.abs (by grind)
  have lb1 : 161 ≤ val b1 := by
    have h2 := Hb1.near
    have h3 : er (15 + 166) ≤ 1 := er_half (by grind)
    rw [kQ1.2] at h2; unfold Near at h2; grind
  obtain ⟨m2, Hm2⟩ := mul_b Hb1.fin Hz.fin Bb1 Bz (by grind)
  have Bm2 : Abs (val m2) 92 := abs_le Hm2.abs (by grind)
  have lm2 : -2 ≤ val m2 := by
    have h2 := Hm2.near
    have h3 : er (182 * (1 / 2)) ≤ 1 := er_half (by grind)
    have h4 := low_mul (show 0 ≤ val b1 by grind) Bb1 lz (by grind)
    unfold Near at h2; grind
  obtain ⟨b2, Hb2⟩ := add_b Hm2.fin kQ2.1 Bm2 (show Abs (val 4646322940342877755) 433 by rw [kQ2.2]; unfold Abs; constructor <;> grind) (by grind)
  have Bb2 : Abs (val b2) 526 := abs_le Hb2.abs (by grind)
  have lb2 : 428 ≤ val b2 := by
    have h2 := Hb2.near
    have h3 : er (92 + 433) ≤ 1 := er_half (by grind)
    rw [kQ2.2] at h2; unfold Near at h2; grind
  obtain ⟨m3, Hm3⟩ := mul_b Hb2.fin Hz.fin Bb2 Bz (by grind)
  have Bm3 : Abs (val m3) 264 := abs_le Hm3.abs (by grind)
  have lm3 : -2 ≤ val m3 := by
    have h2 := Hm3.near
    have h3 : er (526 * (1 / 2)) ≤ 1 := er_half (by grind)
    have h4 := low_mul (show 0 ≤ val b2 by grind) Bb2 lz (by grind)
    unfold Near at h2; grind
  obtain ⟨b3, Hb3⟩ := add_b Hm3.fin kQ3.1 Bm3 (show Abs (val 4647246694406179306) 486 by rw [kQ3.2]; unfold Abs; constructor <;> grind) (by grind)
  have Bb3 : Abs (val b3) 751 := abs_le Hb3.abs (by grind)
  have lb3 : 481 ≤ val b3 := by
    have h2 := Hb3.near
    have h3 : er (264 + 486) ≤ 1 := er_half (by grind)
    rw [kQ3.2] at h2; unfold Near at h2; grind
  obtain ⟨m4, Hm4⟩ := mul_b Hb3.fin Hz.fin Bb3 Bz (by grind)
  have Bm4 : Abs (val m4) 377 := abs_le Hm4.abs (by grind)
  have lm4 : -2 ≤ val m4 := by
    have h2 := Hm4.near
    have h3 : er (751 * (1 / 2)) ≤ 1 := er_half (by grind)
    have h4 := low_mul (show 0 ≤ val b3 by grind) Bb3 lz (by grind)
    unfold Near at h2; grind
  obtain ⟨b4, Hb4⟩ := add_b Hm4.fin kQ4.1 Bm4 (show Abs (val 4641049159275471596) 195 by rw [kQ4.2]; unfold Abs; constructor <;> grind) (by grind)
  have Bb4 : Abs (val b4) 573 := abs_le Hb4.abs (by grind)
  have lb4 : 190 ≤ val b4 := by
    have h2 := Hb4.near
    have h3 : er (377 + 195) ≤ 1 := er_half (by grind)
    rw [kQ4.2] at h2; unfold Near at h2; grind
  have ht : Abs (val nn / val b4) 2 := div_small Bnn lb4 (by grind)
  obtain ⟨t, Ht⟩ := div_b Hnn.fin Hb4.fin (by grind) ht (by grind)
  have Bt : Abs (val t) 3 := abs_le Ht.abs (by grind)
  obtain ⟨u, Hu⟩ := mul_b fx Ht.fin h Bt (by grind)
  have Bu : Abs (val u) 4 := abs_le Hu.abs (by grind)
  obtain ⟨r, Hr⟩ := add_b Hu.fin fx Bu h (by grind)
  have Br : Abs (val r) 6 := abs_le Hr.abs (by grind)
  refine ⟨r, Hr.fin, abs_le Hr.abs (by grind), z, n0, a1, n1, a2, n2, a3, n3, a4, nn, b0, m1, b1, m2, b2, m3, b3, m4, b4, t, u, Hz.bits, Hn0.bits, Ha1.bits, Hn1.bits, Ha2.bits, Hn2.bits, Ha3.bits, Hn3.bits, Ha4.bits, Hnn.bits, Hb0.bits, Hm1.bits, Hb1.bits, Hm2.bits, Hb2.bits, Hm3.bits, Hb3.bits, Hm4.bits, Hb4.bits, Ht.bits, Hu.bits, Hr.bits⟩
end Go.Proofs.YtkbgkogfjfojgaaDoor.Flt

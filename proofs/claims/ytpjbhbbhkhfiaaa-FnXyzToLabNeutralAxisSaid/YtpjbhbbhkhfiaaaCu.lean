/- math.cbrt in numbers, third part: the cube of what it computes is the number, up to a part in 10^13. -/
import Derived.Test.YtpjbhbbhkhfiaaaCr
set_option linter.unusedSimpArgs false
set_option linter.unusedVariables false
set_option maxRecDepth 100000
namespace Go.Proofs.Ytpjbhbbhkhfiaaa.Flt
open Ieee Go
/-- what cbrt computes -/
def CubP (x y : Nat) : Prop := ∃ p r m s a d b q g c s2 r2 w n e z p2, CbA x (x / 3 + 3071306043645493248) p r m s a d b q g c ∧ CbB x (c - c % 2 ^ 30 + 2 ^ 30) s2 r2 w n e z p2 y ∧ c < 2 ^ 63 ∧ 2 ^ 52 ≤ x ∧ x < 2047 * 2 ^ 52 ∧ c - c % 2 ^ 30 + 2 ^ 30 < 2 ^ 63
theorem cube_lo {T A C : Rat} (hT : 0 < T) (hA : 0 < A) (h : C ≤ T * T * T) (hC : A * A * A < C) : A ≤ T := by
  rcases Rat.le_total (a := A) (b := T) with c | c
  · exact c
  · exfalso
    have k1 := Rat.mul_le_mul_of_nonneg_left c (Rat.le_of_lt hT)
    have k2 := Rat.mul_le_mul_of_nonneg_right c (Rat.le_of_lt hA)
    have k3 := Rat.mul_le_mul_of_nonneg_right (show T * T ≤ A * A by grind) (Rat.le_of_lt hT)
    have k4 := Rat.mul_le_mul_of_nonneg_left c (show 0 ≤ A * A by have := Rat.mul_pos hA hA; grind)
    grind
theorem cube_hi {T A C : Rat} (hT : 0 < T) (hA : 0 < A) (h : T * T * T ≤ C) (hC : C < A * A * A) : T ≤ A := by
  rcases Rat.le_total (a := T) (b := A) with c | c
  · exact c
  · exfalso
    have k1 := Rat.mul_le_mul_of_nonneg_left c (Rat.le_of_lt hA)
    have k2 := Rat.mul_le_mul_of_nonneg_right c (Rat.le_of_lt hT)
    have k3 := Rat.mul_le_mul_of_nonneg_right (show A * A ≤ T * T by grind) (Rat.le_of_lt hA)
    have k4 := Rat.mul_le_mul_of_nonneg_left c (show 0 ≤ T * T by have := Rat.mul_pos hT hT; grind)
    grind
theorem not_huge {y : Nat} (h1 : y < 2047 * 2 ^ 52) (h : val y ≤ 10 ^ 20) : y < 2045 * 2 ^ 52 := by
  by_cases c : y < 2045 * 2 ^ 52
  · exact c
  · exfalso
    obtain ⟨t, k, hx, k1, k2, ht, ht2⟩ : ∃ t k, y = t * 2 ^ 52 + k ∧ 2 ^ 52 ≤ k ∧ k < 2 ^ 53 ∧ t ≤ 2045 ∧ 2044 ≤ t := ⟨y / 2 ^ 52 - 1, 2 ^ 52 + y % 2 ^ 52, by omega, by omega, by omega, by omega, by omega⟩
    have v1 : val y = (k : Rat) * two (-1074 + t) := by rw [hx]; exact (val_norm t k k1 k2 (by omega)).2
    have h2 : two 900 ≤ two (-1074 + t) := two_mono (by omega)
    have h3 : (10 : Rat) ^ 20 < two 900 := by unfold two; decide +kernel
    have h4 : (1 : Rat) ≤ (k : Rat) := by exact_mod_cast (show 1 ≤ k by omega)
    have h5 := Rat.mul_le_mul_of_nonneg_right h4 (Rat.le_of_lt (two_pos (-1074 + (t : Int))))
    grind
theorem sc_mul {A B : Rat} (ha : 1 / 10 ^ 60 ≤ A) (ha2 : A ≤ 10 ^ 60) (hb : 1 / 10 ^ 60 ≤ B) (hb2 : B ≤ 10 ^ 60) : 1 / 10 ^ 120 ≤ A * B ∧ A * B ≤ 10 ^ 120 := by
  have z : (0 : Rat) < 1 / 10 ^ 60 := by decide +kernel
  have k1 := Rat.mul_le_mul_of_nonneg_left hb (show 0 ≤ A by grind)
  have k2 := Rat.mul_le_mul_of_nonneg_right ha (Rat.le_of_lt z)
  have k3 := Rat.mul_le_mul_of_nonneg_left hb2 (show 0 ≤ A by grind)
  have k4 := Rat.mul_le_mul_of_nonneg_right ha2 (show (0 : Rat) ≤ 10 ^ 60 by decide +kernel)
  have e1 : (1 : Rat) / 10 ^ 60 * (1 / 10 ^ 60) = 1 / 10 ^ 120 := by decide +kernel
  have e2 : (10 : Rat) ^ 60 * 10 ^ 60 = 10 ^ 120 := by decide +kernel
  rw [e1] at k2; rw [e2] at k4
  exact ⟨Rat.le_trans k2 k1, Rat.le_trans k3 k4⟩
theorem sc120 {A : Rat} (h : 1 / 10 ^ 120 ≤ A ∧ A ≤ 10 ^ 120) : Sc A := ⟨Rat.le_trans (by decide +kernel) h.1, Rat.le_trans h.2 (by decide +kernel)⟩
/-- the scales that a step of cbrt meets -/
theorem scales {X T : Rat} (hX1 : 1 / 10 ^ 30 ≤ X) (hX2 : X ≤ 10 ^ 30) (hT : 0 < T) (h1 : 8 / 10 * X ≤ T * T * T) (h2 : T * T * T ≤ 12 / 10 * X) : 1 / 10 ^ 11 ≤ T ∧ T ≤ 10 ^ 11 ∧ Sc T ∧ Sc (T * T) ∧ Sc (T * T / X) ∧ Sc (X / (T * T)) := by
  have z : (0 : Rat) < 1 / 10 ^ 30 := by decide +kernel
  have t1 : 1 / 10 ^ 11 ≤ T := cube_lo (C := 8 / 10 * (1 / 10 ^ 30)) hT (by decide +kernel) (by grind) (by decide +kernel)
  have t2 : T ≤ 10 ^ 11 := cube_hi (C := 12 / 10 * (10 ^ 30)) hT (by decide +kernel) (by grind) (by decide +kernel)
  have a1 : 1 / 10 ^ 60 ≤ T := Rat.le_trans (by decide +kernel) t1
  have a2 : T ≤ 10 ^ 60 := Rat.le_trans t2 (by decide +kernel)
  have z11 : (0 : Rat) < 1 / 10 ^ 11 := by decide +kernel
  have q1 : 1 / 10 ^ 22 ≤ T * T := by
    have k1 := Rat.mul_le_mul_of_nonneg_left t1 (Rat.le_of_lt hT)
    have k2 := Rat.mul_le_mul_of_nonneg_right t1 (Rat.le_of_lt z11)
    have e : (1 : Rat) / 10 ^ 11 * (1 / 10 ^ 11) = 1 / 10 ^ 22 := by decide +kernel
    rw [e] at k2
    exact Rat.le_trans k2 k1
  have q2 : T * T ≤ 10 ^ 22 := by
    have k1 := Rat.mul_le_mul_of_nonneg_left t2 (Rat.le_of_lt hT)
    have k2 := Rat.mul_le_mul_of_nonneg_right t2 (show (0 : Rat) ≤ 10 ^ 11 by decide +kernel)
    have e : (10 : Rat) ^ 11 * 10 ^ 11 = 10 ^ 22 := by decide +kernel
    rw [e] at k2
    exact Rat.le_trans k1 k2
  have hX0 : 0 < X := by grind
  have hT2 : 0 < T * T := Rat.mul_pos hT hT
  refine ⟨t1, t2, sc120 ⟨Rat.le_trans (by decide +kernel) t1, Rat.le_trans t2 (by decide +kernel)⟩, sc120 (sc_mul a1 a2 a1 a2), ?_, ?_⟩
  · refine sc120 ⟨le_div hX0 ?_, div_le hX0 ?_⟩
    · have := Rat.mul_le_mul_of_nonneg_left hX2 (show (0 : Rat) ≤ 1 / 10 ^ 120 by decide +kernel)
      exact Rat.le_trans this (Rat.le_trans (by decide +kernel) q1)
    · have := Rat.mul_le_mul_of_nonneg_left hX1 (show (0 : Rat) ≤ 10 ^ 120 by decide +kernel)
      exact Rat.le_trans q2 (Rat.le_trans (by decide +kernel) this)
  · refine sc120 ⟨le_div hT2 ?_, div_le hT2 ?_⟩
    · have := Rat.mul_le_mul_of_nonneg_left q2 (show (0 : Rat) ≤ 1 / 10 ^ 120 by decide +kernel)
      exact Rat.le_trans this (Rat.le_trans (by decide +kernel) hX1)
    · have := Rat.mul_le_mul_of_nonneg_left q1 (show (0 : Rat) ≤ 10 ^ 120 by decide +kernel)
      exact Rat.le_trans hX2 (Rat.le_trans (by decide +kernel) this)
theorem step_num {U f v v2 : Rat} (u1 : 9 / 10 ≤ U) (u2 : U ≤ 11 / 10) (hf : Near (U * (f * f * f)) 1 (1 / 5000000)) (f1 : 9 / 10 ≤ f) (f2 : f ≤ 11 / 10) (hv : Near v f (1 / 1000000000000)) (h1 : v ≤ v2) (h2 : v2 ≤ v * (1 + 1 / 2000000)) :
    Near (U * (v2 * v2 * v2)) 1 (1 / 200000) ∧ 8 / 10 ≤ v2 ∧ v2 ≤ 12 / 10 := by
  have hA : Abs v (12 / 10) := by unfold Near at hv; unfold Abs; constructor <;> grind
  have hn : Near v2 f (1 / 1000000) := by unfold Near at *; constructor <;> grind
  have hA2 : Abs v2 (115 / 100) := by unfold Near at hn; unfold Abs; constructor <;> grind
  have k1 := near_mul hn hn hA2 hA2
  have k2 := near_mul k1 hn (abs_mul hA2 hA2) hA2
  have hU : Near U U 0 := by unfold Near; constructor <;> grind
  have k3 := near_mul hU k2 (show Abs U (11 / 10) from ⟨by grind, u2⟩) (abs_mul (abs_mul hA2 hA2) hA2)
  refine ⟨near_mono (near_trans k3 hf) (by decide +kernel), ?_, ?_⟩ <;> (unfold Near at hn; grind)
theorem mul_le_cancel {X p r : Rat} (hX0 : 0 < X) (h : p * X ≤ r * X) : p ≤ r := by
  rcases Rat.le_total (a := p) (b := r) with c | c
  · exact c
  · by_cases c' : p = r
    · grind
    · have := Rat.mul_pos (show 0 < p - r by grind) hX0; grind
theorem cbrt_ex (x : Nat) (wx : x < 2 ^ 64) (fx : fin x) (hX1 : 1 / 10 ^ 30 ≤ val x) (hX2 : val x ≤ 10 ^ 30) :
    ∃ y, CubP x y ∧ fin y ∧ 0 < val y ∧ Near (val y * val y * val y) (val x) (val x / 10 ^ 13) := by
  have z30 : (0 : Rat) < 1 / 10 ^ 30 := by decide +kernel
  have hX0 : 0 < val x := by grind
  obtain ⟨n1, n2⟩ := pos_word' wx fx (Rat.le_trans (by decide +kernel) hX1)
  have RG := rough x n1 n2
  obtain ⟨X, hX⟩ : ∃ X, val x = X := ⟨_, rfl⟩
  obtain ⟨t, ht⟩ : ∃ t, t = x / 3 + 3071306043645493248 := ⟨_, rfl⟩
  obtain ⟨T, hT⟩ : ∃ T, val t = T := ⟨_, rfl⟩
  rw [← ht, hX, hT] at RG
  obtain ⟨ft, t0, ta, tb⟩ := RG
  rw [hX] at hX0 hX1 hX2 ⊢
  obtain ⟨b1, b2, sT, sTT, sTTX, -⟩ := scales hX1 hX2 t0 (by grind) (by grind)
  obtain ⟨U, hU⟩ : ∃ U, T * T / X * T = U := ⟨_, rfl⟩
  have eX : T * T / X * X = T * T := Rat.div_mul_cancel (by grind)
  have eU : U * X = T * T * T := by rw [← hU]; grind
  have u1 : 9 / 10 ≤ U := mul_le_cancel hX0 (by grind)
  have u2 : U ≤ 11 / 10 := mul_le_cancel hX0 (by grind)
  obtain ⟨p, r, m, s, a, d, b, q, g, c, v, A, fc, vc, nv⟩ := cb_a x t fx ft hX hT hX0 sT sTT sTTX hU u1 u2
  obtain ⟨f3, f1, f2⟩ := phi_cube u1 u2
  generalize phi U = f at *
  have v1 : 8 / 10 ≤ v := by unfold Near at nv; grind
  have v2 : v ≤ 12 / 10 := by unfold Near at nv; grind
  have c1 : 1 / 10 ^ 100 ≤ val c := by
    rw [vc]
    have := Rat.mul_le_mul_of_nonneg_right v1 (Rat.le_of_lt t0)
    have := Rat.mul_le_mul_of_nonneg_left b1 (show (0 : Rat) ≤ 8 / 10 by decide +kernel)
    have : (1 : Rat) / 10 ^ 100 ≤ 8 / 10 * (1 / 10 ^ 11) := by decide +kernel
    grind
  have c2 : val c ≤ 10 ^ 20 := by
    rw [vc]
    have := Rat.mul_le_mul_of_nonneg_right v2 (Rat.le_of_lt t0)
    have := Rat.mul_le_mul_of_nonneg_left b2 (show (0 : Rat) ≤ 12 / 10 by decide +kernel)
    have : (12 : Rat) / 10 * (10 ^ 11) ≤ 10 ^ 20 := by decide +kernel
    grind
  obtain ⟨m1, m2⟩ := pos_word' (bits_lt A.hy) fc c1
  have m3 := not_huge m2 c2
  obtain ⟨y2, hy2⟩ : ∃ y2, y2 = c + (2 ^ 30 - c % 2 ^ 30) := ⟨_, rfl⟩
  have hy2' : c - c % 2 ^ 30 + 2 ^ 30 = y2 := by have := Nat.mod_le c (2 ^ 30); omega
  obtain ⟨g1, g2, g3⟩ := chop c (2 ^ 30 - c % 2 ^ 30) m1 m3 (by omega)
  rw [← hy2] at g1 g2 g3
  obtain ⟨T2, hT2⟩ : ∃ T2, val y2 = T2 := ⟨_, rfl⟩
  rw [hT2, vc] at g2 g3
  -- T2 = w * T
  have eW : T2 / T * T = T2 := Rat.div_mul_cancel (by grind)
  generalize hw : T2 / T = w at *
  obtain ⟨S1, S2, S3⟩ := step_num u1 u2 f3 f1 f2 nv (mul_le_cancel t0 (by rw [eW]; exact g2)) (mul_le_cancel t0 (by rw [eW]; exact Rat.le_trans g3 (by rw [Rat.mul_assoc, Rat.mul_assoc, Rat.mul_comm T]; exact Rat.le_refl)))
  have w0 : 0 < w := by grind
  have T20 : 0 < T2 := by rw [← eW]; exact Rat.mul_pos w0 t0
  have e3 : T2 * T2 * T2 = U * (w * w * w) * X := by rw [← eW]; grind
  have s1 : (1 - 1 / 200000) * X ≤ T2 * T2 * T2 := by
    rw [e3]; exact Rat.mul_le_mul_of_nonneg_right (by unfold Near at S1; grind) (Rat.le_of_lt hX0)
  have s2 : T2 * T2 * T2 ≤ (1 + 1 / 200000) * X := by
    rw [e3]; exact Rat.mul_le_mul_of_nonneg_right (by unfold Near at S1; grind) (Rat.le_of_lt hX0)
  obtain ⟨-, -, sT2, sTT2, -, sX2⟩ := scales hX1 hX2 T20 (by grind) (by grind)
  have T22 : 0 < T2 * T2 := Rat.mul_pos T20 T20
  have eR : X / (T2 * T2) / T2 * T2 = X / (T2 * T2) := Rat.div_mul_cancel (by grind)
  have eR2 : X / (T2 * T2) * (T2 * T2) = X := Rat.div_mul_cancel (by grind)
  generalize hR : X / (T2 * T2) / T2 = R at *
  have eR3 : R * (T2 * T2 * T2) = X := by rw [← eR] at eR2; grind
  have T23 : 0 < T2 * T2 * T2 := Rat.mul_pos T22 T20
  have r1 : 99999 / 100000 ≤ R := mul_le_cancel T23 (by rw [eR3]; grind)
  have r2 : R ≤ 100001 / 100000 := mul_le_cancel T23 (by rw [eR3]; grind)
  obtain ⟨s', r', w', n', d', z', p', y, h, B, fy, vy, ny⟩ := cb_b x y2 fx g1 hX hT2 sT2 sTT2 sX2 eR.symm r1 r2
  obtain ⟨k1, k2, k3⟩ := halley r1 r2 ny
  refine ⟨y, ⟨p, r, m, s, a, d, b, q, g, c, s', r', w', n', d', z', p', by rw [← ht]; exact A, by rw [hy2']; exact B, by omega, n1, n2, by omega⟩, fy, ?_, ?_⟩
  · rw [vy]; exact Rat.mul_pos (by grind) T20
  · rw [vy]
    have e4 : h * T2 * (h * T2) * (h * T2) = (h * h * h) * (T2 * T2 * T2) := by grind
    rw [e4]
    have k4 := Rat.mul_le_mul_of_nonneg_right k1.1 (Rat.le_of_lt T23)
    have k5 := Rat.mul_le_mul_of_nonneg_right k1.2 (Rat.le_of_lt T23)
    have e5 : X / 10 ^ 13 = 1 / 10000000000000 * X := by grind
    unfold Near
    rw [e5]
    generalize T2 * T2 * T2 = Z at *
    generalize h * h * h = H at *
    constructor <;> grind
end Go.Proofs.Ytpjbhbbhkhfiaaa.Flt

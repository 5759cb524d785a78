/- math.cbrt in numbers: a rough root by the bits, a rational step, Halley's step. -/
import Derived.Test.YtpjbhbbhkhfiaaaTs
set_option linter.unusedSimpArgs false
set_option linter.unusedVariables false
set_option maxRecDepth 100000
namespace Go.Proofs.Ytpjbhbbhkhfiaaa.Flt
open Ieee Go
theorem Sc.one' : Sc (1 * 1) := by rw [show (1 : Rat) * 1 = 1 by decide +kernel]; exact Sc.one
theorem Sc.one'' : Sc (1 / 1) := by rw [show (1 : Rat) / 1 = 1 by decide +kernel]; exact Sc.one
/-- from scale R * S to scale S -/
theorem Ts.re {x : Nat} {U S R l u E e : Rat} (h : Ts x U l u E e) (l' u' e' A : Rat) (hs : U = R * S) (hU : Abs R A) (hA : e * A ≤ e') (h1 : l' + e' ≤ E * R) (h2 : E * R + e' ≤ u') : Ts x S l' u' (E * R) e' := by
  obtain ⟨f, v, q, _, _, h3⟩ := h
  have : Near (v * R) (E * R) e' := by
    have k : Abs (v - E) e := by unfold Near at h3; unfold Abs; constructor <;> grind
    have := abs_le (abs_mul k hU) hA
    unfold Abs at this; unfold Near; constructor <;> grind
  exact ⟨f, v * R, by rw [q, hs]; grind, by unfold Near at this; grind, by unfold Near at this; grind, this⟩
theorem kcC : Ts 4603064841997850097 1 ((4889622452573681 / 9007199254740992)) ((4889622452573681 / 9007199254740992)) ((19 / 35)) (1 / 1000000000000000) := (Ts.const (x := 4603064841997850097) (v := (4889622452573681 / 9007199254740992)) (const_val (by decide +kernel) (by decide +kernel))).shift (d := 1 / 1000000000000000) (by unfold Near; decide +kernel) (by decide +kernel)
theorem kcD : Ts 13827900089180538932 1 ((-(1588208195121677 / 2251799813685248))) ((-(1588208195121677 / 2251799813685248))) ((-(864 / 1225))) (1 / 1000000000000000) := (Ts.const (x := 13827900089180538932) (v := (-(1588208195121677 / 2251799813685248))) (const_val (by decide +kernel) (by decide +kernel))).shift (d := 1 / 1000000000000000) (by unfold Near; decide +kernel) (by decide +kernel)
theorem kcE : Ts 4609048195788499471 1 ((6369376615852559 / 4503599627370496)) ((6369376615852559 / 4503599627370496)) ((99 / 70)) (1 / 1000000000000000) := (Ts.const (x := 4609048195788499471) (v := (6369376615852559 / 4503599627370496)) (const_val (by decide +kernel) (by decide +kernel))).shift (d := 1 / 1000000000000000) (by unfold Near; decide +kernel) (by decide +kernel)
theorem kcF : Ts 4609916747145206638 1 ((3618963986279863 / 2251799813685248)) ((3618963986279863 / 2251799813685248)) ((45 / 28)) (1 / 1000000000000000) := (Ts.const (x := 4609916747145206638) (v := (3618963986279863 / 2251799813685248)) (const_val (by decide +kernel) (by decide +kernel))).shift (d := 1 / 1000000000000000) (by unfold Near; decide +kernel) (by decide +kernel)
theorem kcG : Ts 4600105333671292343 1 ((6433713753386423 / 18014398509481984)) ((6433713753386423 / 18014398509481984)) ((5 / 14)) (1 / 1000000000000000) := (Ts.const (x := 4600105333671292343) (v := (6433713753386423 / 18014398509481984)) (const_val (by decide +kernel) (by decide +kernel))).shift (d := 1 / 1000000000000000) (by unfold Near; decide +kernel) (by decide +kernel)
theorem sc_of {T : Rat} (h1 : 1 / 10 ^ 200 ≤ T) (h2 : T ≤ 10 ^ 200) : Sc T := by
  have k1 : (1 : Rat) / 10 ^ 250 ≤ 1 / 10 ^ 200 := by decide +kernel
  have k2 : (10 : Rat) ^ 200 ≤ 10 ^ 250 := by decide +kernel
  exact ⟨Rat.le_trans k1 h1, Rat.le_trans h2 k2⟩
/-- the rational step, as a number -/
def phi (u : Rat) : Rat := 5 / 14 + 45 / 28 / (19 / 35 + u + 99 / 70 + -(864 / 1225) / (19 / 35 + u))
structure CbA (x t p r m s a d b q g y : Nat) : Prop where
  hp : floatBits .mul .f64 t t = some p
  hr : floatBits .quo .f64 p x = some r
  hm : floatBits .mul .f64 r t = some m
  hs : floatBits .add .f64 4603064841997850097 m = some s
  ha : floatBits .add .f64 s 4609048195788499471 = some a
  hd : floatBits .quo .f64 13827900089180538932 s = some d
  hb : floatBits .add .f64 a d = some b
  hq : floatBits .quo .f64 4609916747145206638 b = some q
  hg : floatBits .add .f64 4600105333671292343 q = some g
  hy : floatBits .mul .f64 t g = some y
theorem cb_a (x t : Nat) (fx : fin x) (ft : fin t) {X T U : Rat} (hX : val x = X) (hT : val t = T) (hX0 : 0 < X) (sT : Sc T) (sTT : Sc (T * T)) (sTTX : Sc (T * T / X)) (hU : T * T / X * T = U) (u1 : 9 / 10 ≤ U) (u2 : U ≤ 11 / 10) :
    ∃ p r m s a d b q g y v, CbA x t p r m s a d b q g y ∧ fin y ∧ val y = v * T ∧ Near v (phi U) (1 / 1000000000000) := by
  have hx := Ts.self fx hX
  have ht := Ts.self ft hT
  have hT := ht
  have sU : Sc (T * T / X * T) := by rw [hU]; exact sc_of (Rat.le_trans (show (1 : Rat) / 10 ^ 200 ≤ 9 / 10 by decide +kernel) u1) (Rat.le_trans u2 (by decide +kernel))
  have sT1 : Sc (T * 1) := by rw [Rat.mul_one]; exact sT
  obtain ⟨p, hp, Tp⟩ := mul_s (99999999999999899999 / 100000000000000000000) (100000000000000100001 / 100000000000000000000) (1) (1) (1) (1001 / 1000000000000000000) sTT hT hT (by constructor <;> decide +kernel)
  obtain ⟨r, hr, Tr⟩ := div_s (24999999999999949997 / 25000000000000000000) (25000000000000050003 / 25000000000000000000) (10001 / 10000) (1001 / 500000000000000000) sTTX hX0 Tp hx (by constructor <;> decide +kernel)
  obtain ⟨m, hm, Tm⟩ := mul_s (99999999999999699987 / 100000000000000000000) (100000000000000300013 / 100000000000000000000) (1000001 / 1000000) (1) (1000001 / 1000000) (3003 / 1000000000000000000) sU Tr hT (by constructor <;> decide +kernel)
  have Tm1 := (Tm.E (E' := 1) (by grind)).re (S := 1) (R := U) (89 / 100) (111 / 100) (1 / 10000000000000) (2) (by rw [hU]; grind) ⟨by grind, by grind⟩ (by decide +kernel) (by grind) (by grind)
  rw [Rat.one_mul] at Tm1
  obtain ⟨s, hs, Ts⟩ := add_s (14328571428571411629 / 10000000000000000000) (165285714285714446891 / 100000000000000000000) (1653 / 1000) (1027 / 10000000000000000) Sc.one kcC Tm1 (by constructor <;> decide +kernel)
  obtain ⟨a, ha, Ta⟩ := add_s (71178571428571311577 / 25000000000000000000) (30671428571428619051 / 10000000000000000000) (767 / 250) (267 / 2500000000000000) Sc.one Ts kcE (by constructor <;> decide +kernel)
  obtain ⟨d, hd, Td⟩ := div_s (-(123059393248825225631 / 250000000000000000000)) (-(426719348067661777677 / 1000000000000000000000)) (6153 / 12500) (57 / 1562500000000000) Sc.one'' (by decide) kcD Ts (by constructor <;> decide +kernel)
  replace Td := Td.sc (S' := 1) (by decide +kernel)
  obtain ⟨b, hb, Tb⟩ := add_s (47098105682950978391 / 20000000000000000000) (264042350907520276843 / 100000000000000000000) (2641 / 1000) (73 / 500000000000000) Sc.one Ta Td (by constructor <;> decide +kernel)
  obtain ⟨q, hq, Tq⟩ := div_s (30433429554370056951 / 50000000000000000000) (682466028660098623437 / 1000000000000000000000) (68247 / 100000) (2171 / 50000000000000000) Sc.one'' (by decide) kcF Tb (by constructor <;> decide +kernel)
  replace Tq := Tq.sc (S' := 1) (by decide +kernel)
  obtain ⟨g, hg, Tg⟩ := add_s (965811448230257249807 / 1000000000000000000000) (103960888580295681423 / 100000000000000000000) (26 / 25) (4547 / 100000000000000000) Sc.one kcG Tq (by constructor <;> decide +kernel)
  obtain ⟨y, hy, Ty⟩ := mul_s (965811448230256210197 / 1000000000000000000000) (12995111072536973173 / 12500000000000000000) (1) (1039609 / 1000000) (1039609 / 1000000) (4651 / 100000000000000000) sT1 hT Tg (by constructor <;> decide +kernel)
  obtain ⟨fy, v, qv, _, _, nv⟩ := Ty
  refine ⟨p, r, m, s, a, d, b, q, g, y, v, ⟨hp, hr, hm, hs, ha, hd, hb, hq, hg, hy⟩, fy, by rw [qv]; grind, ?_⟩
  refine near_mono (b := phi U) ?_ (show (4651 / 100000000000000000) ≤ _ by decide +kernel)
  unfold phi
  rw [Rat.one_mul] at nv
  exact nv
theorem phi_eq {u : Rat} (u1 : 9 / 10 ≤ u) (u2 : u ≤ 11 / 10) : 0 < 27 / 7 + 9 / 2 * (u - 1) + (u - 1) * (u - 1) ∧ phi u * (27 / 7 + 9 / 2 * (u - 1) + (u - 1) * (u - 1)) = 27 / 7 + 45 / 14 * (u - 1) + 5 / 14 * ((u - 1) * (u - 1)) := by
  have h0 : 0 ≤ (u - 1) * (u - 1) := by
    rcases Rat.le_total (a := 0) (b := u - 1) with h | h
    · exact Rat.mul_nonneg h h
    · have := Rat.mul_nonneg (show 0 ≤ -(u - 1) by grind) (show 0 ≤ -(u - 1) by grind); grind
  have hd : 0 < 27 / 7 + 9 / 2 * (u - 1) + (u - 1) * (u - 1) := by grind
  refine ⟨hd, ?_⟩
  unfold phi
  have hs : 0 < 19 / 35 + u := by grind
  have e1 : -(864 / 1225) / (19 / 35 + u) * (19 / 35 + u) = -(864 / 1225) := Rat.div_mul_cancel (by grind)
  generalize hz : -(864 / 1225) / (19 / 35 + u) = z at *
  have e2 : (19 / 35 + u + 99 / 70 + z) * (19 / 35 + u) = 27 / 7 + 9 / 2 * (u - 1) + (u - 1) * (u - 1) := by grind
  have e3 : 19 / 35 + u + 99 / 70 + z ≠ 0 := fun h => by rw [h] at e2; grind
  have e4 : 45 / 28 / (19 / 35 + u + 99 / 70 + z) * (19 / 35 + u + 99 / 70 + z) = 45 / 28 := Rat.div_mul_cancel e3
  generalize 45 / 28 / (19 / 35 + u + 99 / 70 + z) = q at *
  generalize 19 / 35 + u + 99 / 70 + z = p at *
  rw [← e2]
  grind
theorem phi_cube {u : Rat} (u1 : 9 / 10 ≤ u) (u2 : u ≤ 11 / 10) : Near (u * (phi u * phi u * phi u)) 1 (1 / 5000000) ∧ 9 / 10 ≤ phi u ∧ phi u ≤ 11 / 10 := by
  obtain ⟨hd, he⟩ := phi_eq u1 u2
  generalize phi u = f at *
  have hdd : Abs (u - 1) (1 / 10) := ⟨by grind, by grind⟩
  generalize hu : u - 1 = d at *
  have d2 := abs_mul hdd hdd
  have d3 := abs_mul d2 hdd
  have d4 := abs_mul d2 d2
  have d5 := abs_mul d4 hdd
  have hlo : 27 / 8 ≤ 27 / 7 + 9 / 2 * d + d * d := by unfold Abs at *; have : 0 ≤ (d + 1 / 10) * (d + 1 / 10) := Rat.mul_nonneg (by grind) (by grind); grind
  generalize hD : 27 / 7 + 9 / 2 * d + d * d = D at *
  have d2' : 0 ≤ d * d := by
    rcases Rat.le_total (a := 0) (b := d) with h | h
    · exact Rat.mul_nonneg h h
    · have := Rat.mul_nonneg (show 0 ≤ -d by grind) (show 0 ≤ -d by grind); grind
  have D2 : 9 ≤ D * D := by have := Rat.mul_le_mul_of_nonneg_left (show 3 ≤ D by grind) (show 0 ≤ D by grind); grind
  have D3 : 27 ≤ D * D * D := by have := Rat.mul_le_mul_of_nonneg_left (show 3 ≤ D by grind) (show 0 ≤ D * D by grind); grind
  have key : u * (f * f * f) * (D * D * D) - D * D * D = (d * d * (d * d) * d) * (27 / 98 + 27 / 98 * d + 125 / 2744 * (d * d)) := by
    have h1 : u * (f * f * f) * (D * D * D) = u * ((f * D) * (f * D) * (f * D)) := by grind
    rw [h1, he, ← hD, show u = d + 1 by grind]
    grind
  have hc : Abs (27 / 98 + 27 / 98 * d + 125 / 2744 * (d * d)) (1 / 3) := by unfold Abs at *; constructor <;> grind
  have hk := abs_mul d5 hc
  rw [← key] at hk
  generalize d * d * (d * d) * d = z at *
  have hD3 : 0 < D * D * D := by grind
  generalize D * D * D = M at *
  generalize u * (f * f * f) = y at *
  refine ⟨⟨?_, ?_⟩, ?_, ?_⟩
  · rcases Rat.le_total (a := y) (b := 1 + 1 / 5000000) with c | c
    · exact c
    · have := Rat.mul_le_mul_of_nonneg_right c (Rat.le_of_lt hD3); unfold Abs at hk; grind
  · rcases Rat.le_total (a := 1) (b := y + 1 / 5000000) with c | c
    · exact c
    · have := Rat.mul_le_mul_of_nonneg_right c (Rat.le_of_lt hD3); unfold Abs at hk; grind
  · rcases Rat.le_total (a := 9 / 10) (b := f) with c | c
    · exact c
    · have := Rat.mul_le_mul_of_nonneg_right c (show 0 ≤ D by grind); unfold Abs at d2 hdd; grind
  · rcases Rat.le_total (a := f) (b := 11 / 10) with c | c
    · exact c
    · have := Rat.mul_le_mul_of_nonneg_right c (show 0 ≤ D by grind); unfold Abs at d2 hdd; grind
structure CbB (x t s r w n d z p y : Nat) : Prop where
  hs : floatBits .mul .f64 t t = some s
  hr : floatBits .quo .f64 x s = some r
  hw : floatBits .add .f64 t t = some w
  hn : floatBits .sub .f64 r t = some n
  hd : floatBits .add .f64 w r = some d
  hz : floatBits .quo .f64 n d = some z
  hp : floatBits .mul .f64 t z = some p
  hy : floatBits .add .f64 t p = some y
theorem cb_b (x t : Nat) (fx : fin x) (ft : fin t) {X T R : Rat} (hX : val x = X) (hT : val t = T) (sT : Sc T) (sTT : Sc (T * T)) (sX : Sc (X / (T * T))) (hR : X / (T * T) = R * T) (r1 : 99999 / 100000 ≤ R) (r2 : R ≤ 100001 / 100000) :
    ∃ s r w n d z p y v, CbB x t s r w n d z p y ∧ fin y ∧ val y = v * T ∧ Near v (1 + (R - 1) / (1 + 1 + R)) (1 / 100000000000000) := by
  have hx := Ts.self fx hX
  have ht := Ts.self ft hT
  have hT := ht
  have tt : T / T = 1 := by have := sT.pos; have e : T / T * T = T := Rat.div_mul_cancel (by grind)
                            have e2 : (T / T - 1) * T = 0 := by grind
                            rcases Rat.mul_eq_zero.1 e2 with k | k <;> grind
  have sTo : Sc (T / T) := by rw [tt]; exact Sc.one
  have sTo' : Sc (T * (T / T)) := by rw [tt, Rat.mul_one]; exact sT
  obtain ⟨s, hs, Ts⟩ := mul_s (99999999999999899999 / 100000000000000000000) (100000000000000100001 / 100000000000000000000) (1) (1) (1) (1001 / 1000000000000000000) sTT hT hT (by constructor <;> decide +kernel)
  obtain ⟨r, hr, Tr⟩ := div_s (99999999999999799989 / 100000000000000000000) (25000000000000050003 / 25000000000000000000) (10001 / 10000) (1001 / 500000000000000000) sX (sTT.pos) hx Ts (by constructor <;> decide +kernel)
  have Tr1 := (Tr.E (E' := 1) (by decide +kernel)).re (S := T) (R := R) (999989 / 1000000) (1000011 / 1000000) (3 / 1000000000000000) (100001 / 100000) hR ⟨by grind, by grind⟩ (by decide +kernel) (by grind) (by grind)
  rw [Rat.one_mul] at Tr1
  obtain ⟨w, hw, Tw⟩ := add_s (199999999999999799999 / 100000000000000000000) (200000000000000200001 / 100000000000000000000) (2) (2001 / 1000000000000000000) sT hT hT (by constructor <;> decide +kernel)
  obtain ⟨n, hn, Tn⟩ := sub_s (-(110000000000000110001 / 10000000000000000000000000)) (110000000000000110001 / 10000000000000000000000000) (11 / 1000000) (3001 / 1000000000000000000) sT Tr1 hT (by constructor <;> decide +kernel)
  obtain ⟨d, hd, Td⟩ := add_s (149999449999999749949 / 50000000000000000000) (150000550000000250051 / 50000000000000000000) (3001 / 1000) (8003 / 1000000000000000000) sT Tw Tr1 (by constructor <;> decide +kernel)
  obtain ⟨z, hz, Tz⟩ := div_s (-(183334005558021051699 / 50000000000000000000000000)) (183334005558021051699 / 50000000000000000000000000) (36667 / 10000000000) (1001 / 1000000000000000000) sTo sT.pos Tn Td (by constructor <;> decide +kernel)
  obtain ⟨p, hp, Tp⟩ := mul_s (-(366668011116042470067 / 100000000000000000000000000)) (366668011116042470067 / 100000000000000000000000000) (1) (3666681 / 1000000000000) (3666681 / 1000000000000) (501 / 500000000000000000) sTo' hT Tz (by constructor <;> decide +kernel)
  have Tp1 := Tp.sc (S' := T) (by rw [tt, Rat.mul_one])
  obtain ⟨y, hy, Ty⟩ := add_s (39999853332795513543 / 40000000000000000000) (100000366668011216143 / 100000000000000000000) (1001 / 1000) (501 / 250000000000000000) sT hT Tp1 (by constructor <;> decide +kernel)
  obtain ⟨fy, v, qv, _, _, nv⟩ := Ty
  refine ⟨s, r, w, n, d, z, p, y, v, ⟨hs, hr, hw, hn, hd, hz, hp, hy⟩, fy, qv, ?_⟩
  rw [Rat.one_mul] at nv
  exact near_mono nv (by decide +kernel)
/-- Halley's step, as numbers -/
theorem halley {R v : Rat} (r1 : 99999 / 100000 ≤ R) (r2 : R ≤ 100001 / 100000) (hv : Near v (1 + (R - 1) / (1 + 1 + R)) (1 / 100000000000000)) : Near (v * v * v) R (1 / 20000000000000) ∧ 9 / 10 ≤ v ∧ v ≤ 11 / 10 := by
  have e1 : (R - 1) / (1 + 1 + R) * (1 + 1 + R) = R - 1 := Rat.div_mul_cancel (by grind)
  have hz : Abs ((R - 1) / (1 + 1 + R)) (1 / 250000) := ⟨le_div (by grind) (by grind), div_le (by grind) (by grind)⟩
  generalize (R - 1) / (1 + 1 + R) = z at *
  have z2 := abs_mul hz hz
  have z3 := abs_mul z2 hz
  have z4 := abs_mul z2 z2
  -- R (1 - z) = 1 + 2 z
  have e2 : R * (1 - z) = 1 + 2 * z := by grind
  have e3 : ((1 + z) * (1 + z) * (1 + z) - R) * (1 - z) = -2 * (z * z * z) - z * z * (z * z) := by grind
  have h1 : Near ((1 + z) * (1 + z) * (1 + z)) R (1 / 5000000000000000) := by
    have h0 : 0 < 1 - z := by unfold Abs at hz; grind
    unfold Abs at *
    generalize (1 + z) * (1 + z) * (1 + z) = c at *
    constructor
    · rcases Rat.le_total (a := c) (b := R + 1 / 5000000000000000) with k | k
      · exact k
      · have := Rat.mul_le_mul_of_nonneg_right (show 1 / 5000000000000000 ≤ c - R by grind) (Rat.le_of_lt h0); grind
    · rcases Rat.le_total (a := R) (b := c + 1 / 5000000000000000) with k | k
      · exact k
      · have := Rat.mul_le_mul_of_nonneg_right (show c - R ≤ -(1 / 5000000000000000) by grind) (Rat.le_of_lt h0); grind
  have hd : Abs (v - (1 + z)) (1 / 100000000000000) := by unfold Near at hv; unfold Abs; constructor <;> grind
  have hv1 : Abs v (100001 / 100000) := by unfold Abs at *; unfold Near at hv; constructor <;> grind
  have hz1 : Abs (1 + z) (100001 / 100000) := by unfold Abs at *; constructor <;> grind
  have k2 := near_mul hv hv hv1 hv1
  have hvv : Abs (v * v) (100003 / 100000) := abs_le (abs_mul hv1 hv1) (by decide +kernel)
  have k3 := near_mul k2 hv hvv hv1
  refine ⟨near_mono (near_trans k3 h1) (by decide +kernel), ?_, ?_⟩ <;> (unfold Abs at *; unfold Near at hv; grind)
end Go.Proofs.Ytpjbhbbhkhfiaaa.Flt

/- The plain law behind hwb_to_rgb: every channel lies in [0, 1], and not below the whiteness. -/
import Derived.Test.YtanaamlkiackbaaH2
import Derived.Test.YtanaamlkiackbaaFl3
set_option linter.unusedSimpArgs false
set_option linter.unusedVariables false
namespace Go.Proofs.Ytanaamlkiackbaa
open Flt Ieee
namespace Hp
theorem k0 : fin 0 ∧ val 0 = 0 := const_val (by decide +kernel) (by decide +kernel)
theorem k1 : fin 4607182418800017408 ∧ val 4607182418800017408 = 1 := const_val (by decide +kernel) (by decide +kernel)
theorem km1 : fin 13830554455654793216 ∧ val 13830554455654793216 = -1 := const_val (by decide +kernel) (by decide +kernel)
theorem kh : fin 4602678819172646912 ∧ val 4602678819172646912 = 1 / 2 := const_val (by decide +kernel) (by decide +kernel)
theorem kmh : fin 13826050856027422720 ∧ val 13826050856027422720 = -1 / 2 := const_val (by decide +kernel) (by decide +kernel)
theorem k3 : fin 4613937818241073152 ∧ val 4613937818241073152 = 3 := const_val (by decide +kernel) (by decide +kernel)
theorem k4 : fin 4616189618054758400 ∧ val 4616189618054758400 = 4 := const_val (by decide +kernel) (by decide +kernel)
theorem k8 : fin 4620693217682128896 ∧ val 4620693217682128896 = 8 := const_val (by decide +kernel) (by decide +kernel)
theorem k9 : fin 4621256167635550208 ∧ val 4621256167635550208 = 9 := const_val (by decide +kernel) (by decide +kernel)
theorem k12 : fin 4622945017495814144 ∧ val 4622945017495814144 = 12 := const_val (by decide +kernel) (by decide +kernel)
theorem k30 : fin 4629137466983448576 ∧ val 4629137466983448576 = 30 := const_val (by decide +kernel) (by decide +kernel)
theorem k20 : fin 4626322717216342016 ∧ val 4626322717216342016 = 20 := const_val (by decide +kernel) (by decide +kernel)
theorem k2 : fin 4611686018427387904 ∧ val 4611686018427387904 = 2 := const_val (by decide +kernel) (by decide +kernel)
theorem km3 : fin 13837309855095848960 ∧ val 13837309855095848960 = -3 := const_val (by decide +kernel) (by decide +kernel)
theorem k100 : fin 4636737291354636288 ∧ val 4636737291354636288 = 100 := const_val (by decide +kernel) (by decide +kernel)
theorem k360 : fin 4645040803167600640 ∧ val 4645040803167600640 = 360 := const_val (by decide +kernel) (by decide +kernel)
theorem kbig : fin 9191846839463182336 ∧ val 9191846839463182336 = two 1018 := by
  have e : F.read 9191846839463182336 = .number false (2 ^ 52) 966 := by decide +kernel
  refine ⟨by unfold fin; rw [e]; trivial, ?_⟩
  unfold val
  rw [e]
  show sg false * ((2 ^ 52 : Nat) : Rat) * two 966 = two 1018
  rw [← two_nat, show (1018 : Int) = ((52 : Nat) : Int) + 966 by decide, two_add]
  simp [sg, Rat.one_mul]
theorem big : (2 : Rat) ^ 100 ≤ two 1021 := by unfold two; decide +kernel
theorem big2 : two 1021 ≤ two 1022 := two_mono (by decide)
theorem big3 : 1 + two (-54) < two 1023 := by
  have h1 := big
  have h2 := two_mono (show (1021 : Int) ≤ 1023 by decide)
  have h3 : 1 + two (-54) < (2 : Rat) ^ 100 := by unfold two; decide +kernel
  grind
theorem ab {x y : Rat} (h1 : -y ≤ x) (h2 : x ≤ y) (hy : y ≤ 2 ^ 100) : Abs x (two 1022) := by have := big; have := big2; unfold Abs; constructor <;> grind
theorem ab1 {x y : Rat} (h1 : -y ≤ x) (h2 : x ≤ y) (hy : y ≤ 2 ^ 100) : Abs x (two 1021) := by have := big; unfold Abs; constructor <;> grind
/-- a finite word lies below 2 ^ 1024 -/
theorem fin_abs {x : Nat} (h : fin x) : Abs (val x) (two 1024) := by
  obtain ⟨s, m, p, e, hm, hp, hp2, -⟩ := fin_num h
  unfold val
  rw [e]
  have a1 : (m : Rat) ≤ ((2 ^ 53 : Nat) : Rat) := by exact_mod_cast Nat.le_of_lt hm
  have a2 := Rat.mul_le_mul_of_nonneg_right a1 (Rat.le_of_lt (two_pos p))
  have a3 : ((2 ^ 53 : Nat) : Rat) * two p ≤ two 1024 := by
    rw [← two_nat, ← two_add]; exact two_mono (by omega)
  have a4 : (0 : Rat) ≤ (m : Rat) * two p := Rat.mul_nonneg (by exact_mod_cast Nat.zero_le _) (Rat.le_of_lt (two_pos _))
  simp only [dval]
  unfold Abs
  rw [Rat.mul_assoc]
  generalize (m : Rat) * two p = M at *
  cases s <;> simp only [sg] <;> constructor <;> grind
theorem nearest_one (s : Bool) (mag : Nat) (place : Int) (hm : (mag : Rat) * two place < 1) :
    val (F.nearest s mag place) ≤ sg s * (mag : Rat) * two place + two (-54) := by
  have t0 := two_pos (-54)
  by_cases h : mag = 0
  · subst h
    have : F.nearest s 0 place = F.word s 0 := by unfold Format.nearest; rw [if_pos rfl]
    rw [this, (word_zero s).2]
    simp only [Rat.natCast_ofNat, Rat.mul_zero, Rat.zero_mul]
    grind
  · have hb : place + mag.log2 < 0 := log_bound h (by rw [two_zero]; exact hm)
    obtain ⟨n1, n2⟩ := nearest_val s mag place h (by omega)
    rw [n2]
    obtain ⟨q1, q2⟩ := kept_err s mag place
    have hh : two (ulast mag place - 1) ≤ two (-54) := two_mono (by unfold ulast; omega)
    generalize (ukept s mag place : Rat) * two (ulast mag place) = K at *
    generalize two (ulast mag place - 1) = H at *
    rw [Rat.mul_assoc]
    generalize (mag : Rat) * two place = R at *
    cases s <;> simp only [sg] <;> grind
theorem write_one (d : Datum) (hd : isNum d) (h1 : -1 < dval d) (h2 : dval d < 1) : val (F.write d) ≤ dval d + two (-54) := by
  cases d with
  | infinity s => exact hd.elim
  | nan s f => exact hd.elim
  | number s m p =>
    have m0 : (0 : Rat) ≤ (m : Rat) * two p := Rat.mul_nonneg (by exact_mod_cast Nat.zero_le m) (Rat.le_of_lt (two_pos _))
    refine nearest_one s m p ?_
    simp only [dval] at h1 h2
    rw [Rat.mul_assoc] at h1 h2
    generalize (m : Rat) * two p = R at *
    cases s <;> simp only [sg] at h1 h2 <;> grind
/-- a sum below 1 is rounded up by at most 2 ^ -54 -/
theorem add_one {x y r : Nat} (hx : fin x) (hy : fin y) (h1 : -1 < val x + val y) (h2 : val x + val y < 1) (h : floatBits .add .f64 x y = some r) : val r ≤ val x + val y + two (-54) := by
  obtain ⟨d, e1, e2, e3⟩ := sum_val _ _ hx hy
  have e4 : dval d = val x + val y := e3
  have e5 : floatBits .add .f64 x y = some (F.write d) := by
    show ((F.read x).sum (F.read y)).map F.write = _
    rw [e1]; rfl
  rw [h] at e5
  cases e5
  rw [← e4]
  exact write_one d e2 (by rw [e4]; exact h1) (by rw [e4]; exact h2)
/-- one channel of hsl_to_rgb at full saturation and half lightness -/
theorem chan_mid {n h : Nat} (fn : fin n) (n0 : 0 ≤ val n) (n1 : val n ≤ 8) (fh : fin h) (h0 : 0 ≤ val h) (h1 : val h ≤ 360) :
    ∃ r, Chan n h 4602678819172646912 4607182418800017408 r ∧ fin r ∧ 0 ≤ val r ∧ val r ≤ 1 := by
  have c0 := k0.2; have c1 := k1.2; have cm := km1.2; have ch := kh.2; have cmh := kmh.2; have c3 := k3.2; have c9 := k9.2; have c12 := k12.2; have c30 := k30.2; have c20 := k20.2; have c2 := k2.2; have cm3 := km3.2
  -- h / 30
  have e1 : val h / val 4629137466983448576 = val h / 30 := by rw [c30]
  obtain ⟨q1, F1, f1, m1⟩ := div_mono h _ fh k30.1 (by rw [c30]; decide +kernel) (by rw [e1]; exact ab1 (y := 12) (by grind) (by grind) (by decide +kernel))
  have a1 := (m1 0 k0.1).2 (by rw [e1, c0]; grind)
  have b1 := (m1 _ k12.1).1 (by rw [e1, c12]; grind)
  rw [c0] at a1; rw [c12] at b1
  -- + n
  obtain ⟨q2, F2, f2, m2⟩ := add_mono q1 n f1 fn (ab (y := 20) (by grind) (by grind) (by decide +kernel))
  have a2 := (m2 0 k0.1).2 (by rw [c0]; grind)
  have b2 := (m2 _ k20.1).1 (by rw [c20]; grind)
  rw [c0] at a2; rw [c20] at b2
  -- / 12
  have e3 : val q2 / val 4622945017495814144 = val q2 / 12 := by rw [c12]
  obtain ⟨q3, F3, f3, m3⟩ := div_mono q2 _ f2 k12.1 (by rw [c12]; decide +kernel) (by rw [e3]; exact ab1 (y := 2) (by grind) (by grind) (by decide +kernel))
  -- the part behind the point
  obtain ⟨g1, g2, g3⟩ := floor_val f3
  obtain ⟨q5, F5, f5, m5⟩ := sub_mono q3 (floorB q3) f3 g1 (ab (y := 1) (by grind) (by grind) (by decide +kernel))
  have a5 := (m5 0 k0.1).2 (by rw [c0]; grind)
  have b5 := (m5 _ k1.1).1 (by rw [c1]; grind)
  rw [c0] at a5; rw [c1] at b5
  -- * 12
  have e6 : val q5 * val 4622945017495814144 = val q5 * 12 := by rw [c12]
  obtain ⟨q6, F6, f6, m6⟩ := mul_mono q5 _ f5 k12.1 (by rw [e6]; exact ab (y := 12) (by grind) (by grind) (by decide +kernel))
  have a6 := (m6 0 k0.1).2 (by rw [c0, e6]; grind)
  have b6 := (m6 _ k12.1).1 (by rw [e6, c12]; grind)
  rw [c0] at a6; rw [c12] at b6
  -- a
  have F7 : floatBits .add .f64 (negB 4602678819172646912) 4607182418800017408 = some 4602678819172646912 := by decide +kernel
  have hmin : minB 4602678819172646912 4602678819172646912 = 4602678819172646912 := by rcases (minB_val kh.1 kh.1).1 with h | h <;> exact h
  have F8 : floatBits .mul .f64 (minB 4602678819172646912 4602678819172646912) 4607182418800017408 = some 4602678819172646912 := by rw [hmin]; decide +kernel
  -- k - 3, 9 - k
  obtain ⟨q9, F9, f9, m9⟩ := sub_mono q6 _ f6 k3.1 (by rw [c3]; exact ab (y := 12) (by grind) (by grind) (by decide +kernel))
  obtain ⟨ng1, ng2⟩ := negB_val (bits_lt F6) f6
  obtain ⟨q10, F10, f10, m10⟩ := add_mono (negB q6) _ ng1 k9.1 (by rw [c9, ng2]; exact ab (y := 12) (by grind) (by grind) (by decide +kernel))
  obtain ⟨n1a, n1b, n1c⟩ := minB_val f9 f10
  have fmn : fin (minB q9 q10) := by rcases n1a with h | h <;> rw [h] <;> assumption
  obtain ⟨n2a, n2b, n2c⟩ := minB_val fmn k1.1
  have fmn2 : fin (minB (minB q9 q10) 4607182418800017408) := by
    rcases n2a with h | h <;> rw [h]
    · exact fmn
    · exact k1.1
  obtain ⟨x1, x2, x3⟩ := maxB_val km1.1 fmn2
  have fmx : fin (maxB 13830554455654793216 (minB (minB q9 q10) 4607182418800017408)) := by
    rcases x1 with h | h <;> rw [h]
    · exact km1.1
    · exact fmn2
  have u1 : val (maxB 13830554455654793216 (minB (minB q9 q10) 4607182418800017408)) ≤ 1 := by
    rcases x1 with h | h <;> rw [h]
    · rw [cm]; decide +kernel
    · rw [c1] at n2c; exact n2c
  rw [cm] at x2
  obtain ⟨mx, hmx⟩ : ∃ mx, maxB 13830554455654793216 (minB (minB q9 q10) 4607182418800017408) = mx := ⟨_, rfl⟩
  rw [hmx] at fmx u1 x2
  obtain ⟨q11, F11, f11, m11⟩ := mul_mono mx _ fmx kh.1 (by rw [ch]; exact ab (y := 1) (by grind) (by grind) (by decide +kernel))
  have a11 := (m11 _ kmh.1).2 (by rw [ch, cmh]; grind)
  have b11 := (m11 _ kh.1).1 (by rw [ch]; grind)
  rw [cmh] at a11; rw [ch] at b11
  obtain ⟨r, F12, fr, m12⟩ := sub_mono _ q11 kh.1 f11 (by rw [ch]; exact ab (y := 1) (by grind) (by grind) (by decide +kernel))
  have ar := (m12 0 k0.1).2 (by rw [c0, ch]; grind)
  have br := (m12 _ k1.1).1 (by rw [c1, ch]; grind)
  rw [c0] at ar; rw [c1] at br
  exact ⟨r, ⟨q1, q2, q3, q5, q6, _, _, q9, q10, q11, F1, F2, F3, f3, F5, F6, F7, F8, F9, F10, by rw [hmx]; exact F11, F12⟩, fr, ar, br⟩
/-- hsl_to_rgb at any finite hue -/
theorem hsl_mid {x : Nat} (fx : fin x) : ∃ r0 r8 r4, Hsl x r0 r8 r4 ∧ (fin r0 ∧ 0 ≤ val r0 ∧ val r0 ≤ 1) ∧ (fin r8 ∧ 0 ≤ val r8 ∧ val r8 ≤ 1) ∧ (fin r4 ∧ 0 ≤ val r4 ∧ val r4 ≤ 1) := by
  have c0 := k0.2; have c1 := k1.2; have c360 := k360.2
  have hx := fin_abs fx
  have t1 : two 1024 = 8 * two 1021 := by unfold two; decide +kernel
  have t0 := two_pos 1021
  have e1 : val x / val 4645040803167600640 = val x / 360 := by rw [c360]
  unfold Abs at hx
  obtain ⟨h1, F1, f1, m1⟩ := div_mono x _ fx k360.1 (by rw [c360]; decide +kernel) (by rw [e1]; unfold Abs; constructor <;> grind)
  obtain ⟨g1, g2, g3⟩ := floor_val f1
  obtain ⟨h2, F3, f2, m2⟩ := sub_mono h1 (floorB h1) f1 g1 (ab (y := 1) (by grind) (by grind) (by decide +kernel))
  have a2 := (m2 0 k0.1).2 (by rw [c0]; grind)
  have b2 := (m2 _ k1.1).1 (by rw [c1]; grind)
  rw [c0] at a2; rw [c1] at b2
  have e3 : val h2 * val 4645040803167600640 = val h2 * 360 := by rw [c360]
  obtain ⟨h3, F4, f3, m3⟩ := mul_mono h2 _ f2 k360.1 (by rw [e3]; exact ab (y := 360) (by grind) (by grind) (by decide +kernel))
  have a3 := (m3 0 k0.1).2 (by rw [c0, e3]; grind)
  have b3 := (m3 _ k360.1).1 (by rw [e3, c360]; grind)
  rw [c0] at a3; rw [c360] at b3
  obtain ⟨r0, C0, z0⟩ := chan_mid k0.1 (by rw [c0]; decide +kernel) (by rw [c0]; decide +kernel) f3 a3 b3
  obtain ⟨r8, C8, z8⟩ := chan_mid k8.1 (by rw [k8.2]; decide +kernel) (by rw [k8.2]; decide +kernel) f3 a3 b3
  obtain ⟨r4, C4, z4⟩ := chan_mid k4.1 (by rw [k4.2]; decide +kernel) (by rw [k4.2]; decide +kernel) f3 a3 b3
  exact ⟨r0, r8, r4, ⟨h1, h2, h3, _, _, F1, f1, F3, F4, by decide +kernel, by decide +kernel, C0, C8, C4⟩, z0, z8, z4⟩
theorem part {wh : Nat} (f : fin wh) (h0 : 0 ≤ val wh) : ∃ a, floatBits .quo .f64 wh 4636737291354636288 = some a ∧ fin a ∧ 0 ≤ val a ∧ val a ≤ two 1018 := by
  have c0 := k0.2; have c100 := k100.2
  have hx := fin_abs f
  have t1 : two 1024 = 64 * two 1018 := by unfold two; decide +kernel
  have t2 : two 1021 = 8 * two 1018 := by unfold two; decide +kernel
  have t0 := two_pos 1018
  have e1 : val wh / val 4636737291354636288 = val wh / 100 := by rw [c100]
  unfold Abs at hx
  obtain ⟨a, F1, f1, m1⟩ := div_mono wh _ f k100.1 (by rw [c100]; decide +kernel) (by rw [e1]; unfold Abs; constructor <;> grind)
  have a1 := (m1 0 k0.1).2 (by rw [c0, e1]; grind)
  have b1 := (m1 _ kbig.1).1 (by rw [kbig.2, e1]; grind)
  rw [c0] at a1; rw [kbig.2] at b1
  exact ⟨a, F1, f1, a1, b1⟩
theorem whole {a b : Nat} (fa : fin a) (fb : fin b) (a0 : 0 ≤ val a) (b0 : 0 ≤ val b) (a1 : val a ≤ two 1018) (b1 : val b ≤ two 1018) : ∃ s, floatBits .add .f64 a b = some s ∧ fin s ∧ val a ≤ val s ∧ 0 ≤ val s := by
  have t1 : two 1022 = 16 * two 1018 := by unfold two; decide +kernel
  have t0 := two_pos 1018
  obtain ⟨s, F, f, m⟩ := add_mono a b fa fb (by unfold Abs; constructor <;> grind)
  have h1 := (m a fa).2 (by grind)
  exact ⟨s, F, f, h1, by grind⟩
theorem gray {a s : Nat} (fa : fin a) (fs : fin s) (a0 : 0 ≤ val a) (has : val a ≤ val s) (h1 : 1 ≤ val s) : ∃ r, floatBits .quo .f64 a s = some r ∧ fin r ∧ 0 ≤ val r ∧ val r ≤ 1 := by
  have c0 := k0.2; have c1 := k1.2
  have hs : (0 : Rat) < val s := by grind
  have q0 : 0 ≤ val a / val s := by rw [Rat.div_def]; exact Rat.mul_nonneg a0 (Rat.le_of_lt (Rat.inv_pos.2 hs))
  have q1 : val a / val s ≤ 1 := by
    have := Rat.mul_le_mul_of_nonneg_right has (Rat.le_of_lt (Rat.inv_pos.2 hs))
    rw [Rat.mul_inv_cancel _ (by grind)] at this
    rw [Rat.div_def]; exact this
  obtain ⟨r, F, f, m⟩ := div_mono a s fa fs (by grind) (ab1 (y := 1) (by grind) (by grind) (by decide +kernel))
  have a1 := (m 0 k0.1).2 (by rw [c0]; exact q0)
  have b1 := (m _ k1.1).1 (by rw [c1]; exact q1)
  rw [c0] at a1; rw [c1] at b1
  exact ⟨r, F, f, a1, b1⟩
theorem rest {s : Nat} (ws : s < 2 ^ 64) (fs : fin s) (s0 : 0 ≤ val s) (s1 : val s < 1) : ∃ d, floatBits .add .f64 (negB s) 4607182418800017408 = some d ∧ fin d ∧ 0 ≤ val d ∧ val d ≤ 1 ∧ val d + val s ≤ 1 + two (-54) := by
  have c0 := k0.2; have c1 := k1.2
  obtain ⟨n1, n2⟩ := negB_val ws fs
  have t0 := two_pos (-54)
  obtain ⟨d, F, f, m⟩ := add_mono (negB s) _ n1 k1.1 (by rw [n2, c1]; exact ab (y := 1) (by grind) (by grind) (by decide +kernel))
  have a1 := (m 0 k0.1).2 (by rw [c0, n2, c1]; grind)
  have b1 := (m _ k1.1).1 (by rw [c1, n2]; grind)
  rw [c0] at a1; rw [c1] at b1
  refine ⟨d, F, f, a1, b1, ?_⟩
  by_cases hz : val s = 0
  · rw [hz]; grind
  · have := add_one n1 k1.1 (by rw [n2, c1]; grind) (by rw [n2, c1]; grind) F
    rw [n2, c1] at this
    grind
theorem mixed {a s d r : Nat} (fa : fin a) (fd : fin d) (fr : fin r) (a0 : 0 ≤ val a) (has : val a ≤ val s) (d0 : 0 ≤ val d) (d1 : val d ≤ 1) (hds : val d + val s ≤ 1 + two (-54)) (r0 : 0 ≤ val r) (r1 : val r ≤ 1) :
    ∃ m u, floatBits .mul .f64 d r = some m ∧ floatBits .add .f64 m a = some u ∧ fin u ∧ val a ≤ val u ∧ val u ≤ 1 := by
  have c0 := k0.2; have c1 := k1.2
  have p0 : 0 ≤ val d * val r := Rat.mul_nonneg d0 r0
  have p1 : val d * val r ≤ val d := by have := Rat.mul_le_mul_of_nonneg_left r1 d0; grind
  have t54 : two (-54) = 1 / 18014398509481984 := by unfold two; decide +kernel
  have t54' : two (-54) ≤ 1 := by rw [t54]; decide +kernel
  have t52 : two (-52) = 1 / 4503599627370496 := by unfold two; decide +kernel
  obtain ⟨m, F1, f1, m1⟩ := mul_mono d r fd fr (ab (y := 1) (by grind) (by grind) (by decide +kernel))
  have a1 := (m1 0 k0.1).2 (by rw [c0]; exact p0)
  have b1 := (m1 d fd).1 p1
  rw [c0] at a1
  have s1 : val m + val a ≤ 1 + two (-54) := by grind
  obtain ⟨u, F2, f2, m2⟩ := add_mono m a f1 fa (ab (y := 2) (by grind) (by grind) (by decide +kernel))
  have a2 := (m2 a fa).2 (by grind)
  obtain ⟨u', F3, f3, n1, n2⟩ := add_near m a f1 fa (1 + two (-54)) (by grind) s1 big3
  rw [F2] at F3
  cases F3
  refine ⟨m, u, F1, F2, f2, a2, gap_one f2 ?_⟩
  have e1 := eta_small
  have e2 : (1 : Rat) / 10 ^ 320 ≤ 1 / 10 ^ 100 := by decide +kernel
  have e3 : (1 : Rat) + 1 / 18014398509481984 + (1 / 9007199254740992 * (1 + 1 / 18014398509481984) + 1 / 10 ^ 100) < 1 + 1 / 4503599627370496 := by decide +kernel
  rw [t54, uu_val] at *
  rw [t52]
  grind
end Hp
end Go.Proofs.Ytanaamlkiackbaa

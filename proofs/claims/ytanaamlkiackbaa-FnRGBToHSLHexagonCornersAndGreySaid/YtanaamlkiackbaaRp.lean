/- The plain law behind rgb_to_hsl at the corners of the hue hexagon and at greys. -/
import Derived.Test.YtanaamlkiackbaaFl3
import Derived.Test.YtanaamlkiackbaaMnx
set_option linter.unusedSimpArgs false
set_option linter.unusedVariables false
namespace Go.Proofs.Ytanaamlkiackbaa
open Flt Ieee
namespace Rp
theorem k0 : fin 0 ∧ val 0 = 0 := const_val (by decide +kernel) (by decide +kernel)
theorem k1 : fin 4607182418800017408 ∧ val 4607182418800017408 = 1 := const_val (by decide +kernel) (by decide +kernel)
theorem km1 : fin 13830554455654793216 ∧ val 13830554455654793216 = -1 := const_val (by decide +kernel) (by decide +kernel)
theorem kh : fin 4602678819172646912 ∧ val 4602678819172646912 = 1 / 2 := const_val (by decide +kernel) (by decide +kernel)
theorem k2 : fin 4611686018427387904 ∧ val 4611686018427387904 = 2 := const_val (by decide +kernel) (by decide +kernel)
theorem k3 : fin 4613937818241073152 ∧ val 4613937818241073152 = 3 := const_val (by decide +kernel) (by decide +kernel)
theorem k4 : fin 4616189618054758400 ∧ val 4616189618054758400 = 4 := const_val (by decide +kernel) (by decide +kernel)
theorem k5 : fin 4617315517961601024 ∧ val 4617315517961601024 = 5 := const_val (by decide +kernel) (by decide +kernel)
theorem k6 : fin 4618441417868443648 ∧ val 4618441417868443648 = 6 := const_val (by decide +kernel) (by decide +kernel)
theorem k60 : fin 4633641066610819072 ∧ val 4633641066610819072 = 60 := const_val (by decide +kernel) (by decide +kernel)
theorem k100 : fin 4636737291354636288 ∧ val 4636737291354636288 = 100 := const_val (by decide +kernel) (by decide +kernel)
theorem k120 : fin 4638144666238189568 ∧ val 4638144666238189568 = 120 := const_val (by decide +kernel) (by decide +kernel)
theorem k180 : fin 4640537203540230144 ∧ val 4640537203540230144 = 180 := const_val (by decide +kernel) (by decide +kernel)
theorem k240 : fin 4642648265865560064 ∧ val 4642648265865560064 = 240 := const_val (by decide +kernel) (by decide +kernel)
theorem k300 : fin 4643985272004935680 ∧ val 4643985272004935680 = 300 := const_val (by decide +kernel) (by decide +kernel)
theorem read_lo : F.read 118622047889322841 = .number false 6032057205060441 (-1049) := by decide +kernel
theorem klo : fin 118622047889322841 ∧ two (-1000) ≤ val 118622047889322841 := by
  refine ⟨by unfold fin; rw [read_lo]; trivial, ?_⟩
  unfold val
  rw [read_lo]
  show _ ≤ sg false * ((6032057205060441 : Nat) : Rat) * two (-1049)
  have h1 : ((2 ^ 52 : Nat) : Rat) ≤ ((6032057205060441 : Nat) : Rat) := by exact_mod_cast (by decide : 2 ^ 52 ≤ 6032057205060441)
  have h2 := Rat.mul_le_mul_of_nonneg_right h1 (Rat.le_of_lt (two_pos (-1049)))
  rw [← two_nat, ← two_add] at h2
  have h3 := two_mono (show (-1000 : Int) ≤ ((52 : Nat) : Int) + -1049 by decide)
  simp only [sg, Rat.one_mul] at *
  grind
theorem lo_gap : two (-1021) < two (-1000) := by unfold two; decide +kernel
theorem one100 : (1 : Rat) ≤ 2 ^ 100 := by decide +kernel
theorem big : (2 : Rat) ^ 100 ≤ two 1021 := by unfold two; decide +kernel
theorem big2 : two 1021 ≤ two 1022 := two_mono (by decide)
theorem ab {x y : Rat} (h1 : -y ≤ x) (h2 : x ≤ y) (hy : y ≤ 2 ^ 100) : Abs x (two 1022) := by have := big; have := big2; unfold Abs; constructor <;> grind
theorem ab1 {x y : Rat} (h1 : -y ≤ x) (h2 : x ≤ y) (hy : y ≤ 2 ^ 100) : Abs x (two 1021) := by have := big; unfold Abs; constructor <;> grind
/-- a finite word, taken apart and put together -/
theorem read_form {x : Nat} (h : fin x) (hw : x < 2 ^ 64) : ∃ s m p, F.read x = .number s m p ∧ m < 2 ^ 53 ∧ -1074 ≤ p ∧ p ≤ 971 ∧ (m < 2 ^ 52 → p = -1074) ∧ x = (if s then 2 ^ 63 else 0) + (p + 1074).toNat * 2 ^ 52 + m := by
  unfold fin Format.read at *
  dsimp only at *
  have hs : x = (if (x / F.signWeight % 2 == 1) = true then 2 ^ 63 else 0) + x % F.signWeight := by
    rw [show F.signWeight = 2 ^ 63 from rfl]
    by_cases c : x / 2 ^ 63 % 2 = 1
    · rw [if_pos (by simpa using c)]; omega
    · rw [if_neg (by simpa using c)]; omega
  generalize (x / F.signWeight % 2 == 1) = s at *
  have hr : x % F.signWeight < 2 ^ 63 := Nat.mod_lt _ (by decide)
  generalize x % F.signWeight = r at *
  rw [show F.binade = 2 ^ 52 from rfl, show F.infRung = 2047 * 2 ^ 52 from rfl] at *
  by_cases h1 : r < 2 ^ 52
  · rw [if_pos h1] at *
    refine ⟨s, r, F.leastPlace, rfl, by omega, by decide, by decide, fun _ => by decide, ?_⟩
    rw [show (F.leastPlace + 1074).toNat = 0 by decide, Nat.zero_mul, Nat.add_zero]
    exact hs
  · rw [if_neg h1] at *
    by_cases h2 : r < 2047 * 2 ^ 52
    · rw [if_pos h2] at *
      refine ⟨s, _, _, rfl, by omega, ?_, ?_, by omega, ?_⟩ <;> rw [show F.leastPlace = -1074 by decide] <;> omega
    · rw [if_neg h2] at *
      split at h
      · exact h.elim
      · exact h.elim
/-- words of one positive value are one word -/
theorem val_inj {x y : Nat} (fx : fin x) (fy : fin y) (wx : x < 2 ^ 64) (wy : y < 2 ^ 64) (h0 : 0 < val x) (h : val x = val y) : x = y := by
  obtain ⟨s, m, p, e, hm, hp, -, hn, hx⟩ := read_form fx wx
  obtain ⟨t, n, q, e', hm', hp', -, hn', hy⟩ := read_form fy wy
  unfold val at h h0
  rw [e] at h h0
  rw [e'] at h
  simp only [dval] at h h0
  have pm : (0 : Rat) ≤ (m : Rat) * two p := Rat.mul_nonneg (by exact_mod_cast Nat.zero_le m) (Rat.le_of_lt (two_pos _))
  have pn : (0 : Rat) ≤ (n : Rat) * two q := Rat.mul_nonneg (by exact_mod_cast Nat.zero_le n) (Rat.le_of_lt (two_pos _))
  rw [Rat.mul_assoc] at h h0
  rw [Rat.mul_assoc] at h
  have hs : s = false := by
    cases s with
    | false => rfl
    | true => simp only [sg] at h0; grind
  have ht : t = false := by
    cases t with
    | false => rfl
    | true => rw [h] at h0; simp only [sg] at h0; grind
  subst hs ht
  have h1 : (m : Rat) * two p = (n : Rat) * two q := by simp only [sg] at h; grind
  have key : ∀ {m n : Nat} {p q : Int}, m < 2 ^ 53 → (n < 2 ^ 52 → q = -1074) → -1074 ≤ p → (m : Rat) * two p = (n : Rat) * two q → ¬ p < q := by
    intro m n p q hm hn hp h1 hlt
    have hn2 : 2 ^ 52 ≤ n := by
      rcases Nat.lt_or_ge n (2 ^ 52) with c | c
      · have := hn c; omega
      · exact c
    obtain ⟨k, hk⟩ : ∃ k : Nat, q = ((k + 1 : Nat) : Int) + p := ⟨(q - p - 1).toNat, by omega⟩
    rw [hk, two_add, two_nat, ← Rat.mul_assoc] at h1
    have e : ((n * 2 ^ (k + 1) : Nat) : Rat) = (n : Rat) * ((2 ^ (k + 1) : Nat) : Rat) := by push_cast; rfl
    rw [← e] at h1
    have h2 := rat_two_cancel h1
    have : 2 ^ 52 * 2 ≤ n * 2 ^ (k + 1) := Nat.mul_le_mul hn2 (by rw [Nat.pow_succ]; have := Nat.one_le_two_pow (n := k); omega)
    omega
  have e1 := key hm hn' hp h1
  have e2 := key hm' hn hp' h1.symm
  have hpq : p = q := by omega
  subst hpq
  have := rat_two_cancel h1
  subst this
  rw [hx, hy]
theorem word_lt {r : Nat} (h : r < 2 ^ 63) : F.word false r < 2 ^ 64 := by
  show r < 2 ^ 64
  omega
/-- the half and the double of a word that is neither too small nor too great are words -/
theorem shift_word {v : Nat} (fv : fin v) (wv : v < 2 ^ 64) (h0 : two (-1000) ≤ val v) (h1 : val v ≤ 1) :
    (∃ y, fin y ∧ y < 2 ^ 64 ∧ val y + val y = val v) ∧ (∃ y, fin y ∧ y < 2 ^ 64 ∧ val y = val v + val v) := by
  obtain ⟨s, m, p, e, hm, hp, hp2, hn, hx⟩ := read_form fv wv
  have ev : val v = sg s * ((m : Rat) * two p) := by unfold val; rw [e]; simp only [dval]; rw [Rat.mul_assoc]
  have pm : (0 : Rat) ≤ (m : Rat) * two p := Rat.mul_nonneg (by exact_mod_cast Nat.zero_le m) (Rat.le_of_lt (two_pos _))
  have t0 := two_pos (-1000)
  have hs : s = false := by
    cases s with
    | false => rfl
    | true => rw [ev] at h0; simp only [sg] at h0; grind
  subst hs
  have ev : val v = (m : Rat) * two p := by rw [ev]; simp only [sg]; grind
  have hp3 : -1074 < p := by
    rcases Int.lt_or_le (-1074) p with c | c
    · exact c
    · have : p = -1074 := by omega
      subst this
      have a1 : (m : Rat) ≤ ((2 ^ 53 : Nat) : Rat) := by exact_mod_cast Nat.le_of_lt hm
      have a2 := Rat.mul_le_mul_of_nonneg_right a1 (Rat.le_of_lt (two_pos (-1074)))
      rw [← two_nat, ← two_add] at a2
      rw [show ((53 : Nat) : Int) + -1074 = -1021 by decide] at a2
      have a3 := lo_gap
      grind
  have hm2 : 2 ^ 52 ≤ m := by
    rcases Nat.lt_or_ge m (2 ^ 52) with c | c
    · have := hn c; omega
    · exact c
  have hp4 : p ≤ -52 := by
    rcases Int.lt_or_le (-52) p with c | c
    · have a1 : ((2 ^ 52 : Nat) : Rat) ≤ (m : Rat) := by exact_mod_cast hm2
      have a2 := Rat.mul_le_mul_of_nonneg_right a1 (Rat.le_of_lt (two_pos p))
      rw [← two_nat, ← two_add] at a2
      have a3 := two_mono (show (1 : Int) ≤ ((52 : Nat) : Int) + p by omega)
      have a4 : two 1 = 2 := by unfold two; decide +kernel
      grind
    · exact c
  constructor
  · have r := read_kept' false (p + 1073).toNat m hm (fun _ => hm2) (by omega)
    refine ⟨_, r.1, word_lt (by omega), ?_⟩
    rw [r.2, ev, show (-1074 + ((p + 1073).toNat : Int)) = p + -1 by omega, two_add]
    have : two (-1) = 1 / 2 := by unfold two; decide +kernel
    rw [this]; simp only [sg]; grind
  · have r := read_kept' false (p + 1075).toNat m hm (fun _ => hm2) (by omega)
    refine ⟨_, r.1, word_lt (by omega), ?_⟩
    rw [r.2, ev, show (-1074 + ((p + 1075).toNat : Int)) = p + 1 by omega, two_add]
    have : two 1 = 2 := by unfold two; decide +kernel
    rw [this]; simp only [sg]; grind
theorem add_ex {a b y : Nat} (fa : fin a) (fb : fin b) (fy : fin y) (wy : y < 2 ^ 64) (h0 : 0 < val y) (h : val a + val b = val y) (hy : val y ≤ 2 ^ 100) : floatBits .add .f64 a b = some y := by
  obtain ⟨r, F, f, m⟩ := add_mono a b fa fb (by rw [h]; exact ab (y := val y) (by grind) (by grind) hy)
  have h1 := (m y fy).1 (by grind)
  have h2 := (m y fy).2 (by grind)
  have : r = y := val_inj f fy (bits_lt F) wy (by grind) (by grind)
  rw [F, this]
theorem sub_ex {a b y : Nat} (fa : fin a) (fb : fin b) (fy : fin y) (wy : y < 2 ^ 64) (h0 : 0 < val y) (h : val a - val b = val y) (hy : val y ≤ 2 ^ 100) : floatBits .sub .f64 a b = some y := by
  obtain ⟨r, F, f, m⟩ := sub_mono a b fa fb (by rw [h]; exact ab (y := val y) (by grind) (by grind) hy)
  have h1 := (m y fy).1 (by grind)
  have h2 := (m y fy).2 (by grind)
  have : r = y := val_inj f fy (bits_lt F) wy (by grind) (by grind)
  rw [F, this]
theorem quo_ex {a b y : Nat} (fa : fin a) (fb : fin b) (fy : fin y) (wy : y < 2 ^ 64) (hb : val b ≠ 0) (h0 : 0 < val y) (h : val a / val b = val y) (hy : val y ≤ 2 ^ 100) : floatBits .quo .f64 a b = some y := by
  obtain ⟨r, F, f, m⟩ := div_mono a b fa fb hb (by rw [h]; exact ab1 (y := val y) (by grind) (by grind) hy)
  have h1 := (m y fy).1 (by grind)
  have h2 := (m y fy).2 (by grind)
  have : r = y := val_inj f fy (bits_lt F) wy (by grind) (by grind)
  rw [F, this]
/-- by value alone -/
theorem add_v {a b y : Nat} (fa : fin a) (fb : fin b) (fy : fin y) (h : val a + val b = val y) (hy : Abs (val y) (2 ^ 100)) : ∃ r, floatBits .add .f64 a b = some r ∧ fin r ∧ val r = val y := by
  obtain ⟨r, F, f, m⟩ := add_mono a b fa fb (by rw [h]; exact ab hy.1 hy.2 (Rat.le_refl))
  exact ⟨r, F, f, by have h1 := (m y fy).1 (by grind); have h2 := (m y fy).2 (by grind); grind⟩
theorem sub_v {a b y : Nat} (fa : fin a) (fb : fin b) (fy : fin y) (h : val a - val b = val y) (hy : Abs (val y) (2 ^ 100)) : ∃ r, floatBits .sub .f64 a b = some r ∧ fin r ∧ val r = val y := by
  obtain ⟨r, F, f, m⟩ := sub_mono a b fa fb (by rw [h]; exact ab hy.1 hy.2 (Rat.le_refl))
  exact ⟨r, F, f, by have h1 := (m y fy).1 (by grind); have h2 := (m y fy).2 (by grind); grind⟩
theorem mul_v {a b y : Nat} (fa : fin a) (fb : fin b) (fy : fin y) (h : val a * val b = val y) (hy : Abs (val y) (2 ^ 100)) : ∃ r, floatBits .mul .f64 a b = some r ∧ fin r ∧ val r = val y := by
  obtain ⟨r, F, f, m⟩ := mul_mono a b fa fb (by rw [h]; exact ab hy.1 hy.2 (Rat.le_refl))
  exact ⟨r, F, f, by have h1 := (m y fy).1 (by grind); have h2 := (m y fy).2 (by grind); grind⟩
theorem quo_v {a b y : Nat} (fa : fin a) (fb : fin b) (fy : fin y) (hb : val b ≠ 0) (h : val a / val b = val y) (hy : Abs (val y) (2 ^ 100)) : ∃ r, floatBits .quo .f64 a b = some r ∧ fin r ∧ val r = val y := by
  obtain ⟨r, F, f, m⟩ := div_mono a b fa fb hb (by rw [h]; exact ab1 hy.1 hy.2 (Rat.le_refl))
  exact ⟨r, F, f, by have h1 := (m y fy).1 (by grind); have h2 := (m y fy).2 (by grind); grind⟩
/-- what v is: finite, in the law's range -/
structure V (v : Nat) : Prop where
  f : fin v
  w : v < 2 ^ 64
  lo : two (-1000) ≤ val v
  hi : val v ≤ 1
namespace V
variable {v : Nat} (h : V v)
include h
theorem pos : 0 < val v := by have := two_pos (-1000); have := h.lo; grind
theorem max_vv : maxB v v = v := by rcases (maxB_val h.f h.f).1 with e | e <;> exact e
theorem min_vv : minB v v = v := by rcases (minB_val h.f h.f).1 with e | e <;> exact e
theorem max_v0 : maxB v 0 = v := by
  have p := h.pos; have z := k0.2
  obtain ⟨e | e, a, b⟩ := maxB_val h.f k0.1
  · exact e
  · rw [e] at a; grind
theorem max_0v : maxB 0 v = v := by
  have p := h.pos; have z := k0.2
  obtain ⟨e | e, a, b⟩ := maxB_val k0.1 h.f
  · rw [e] at b; grind
  · exact e
theorem min_v0 : minB v 0 = 0 := by
  have p := h.pos; have z := k0.2
  obtain ⟨e | e, a, b⟩ := minB_val h.f k0.1
  · rw [e] at b; grind
  · exact e
theorem min_0v : minB 0 v = 0 := by
  have p := h.pos; have z := k0.2
  obtain ⟨e | e, a, b⟩ := minB_val k0.1 h.f
  · exact e
  · rw [e] at a; grind
end V
theorem max_00 : maxB 0 0 = 0 := by rcases (maxB_val k0.1 k0.1).1 with e | e <;> exact e
theorem min_00 : minB 0 0 = 0 := by rcases (minB_val k0.1 k0.1).1 with e | e <;> exact e
/-- what rgb_to_hsl reckons of a corner: lightness and saturation -/
theorem corner {v : Nat} (h : V v) : ∃ lt a2 l1, floatBits .add .f64 0 v = some v ∧ floatBits .quo .f64 v 4611686018427387904 = some lt ∧ floatBits .sub .f64 v 0 = some v ∧ floatBits .add .f64 (negB lt) 4607182418800017408 = some a2 ∧
    minB lt a2 = lt ∧ fin lt ∧ 0 < val lt ∧ floatBits .sub .f64 v lt = some lt ∧ floatBits .quo .f64 lt lt = some 4607182418800017408 ∧ floatBits .mul .f64 lt 4636737291354636288 = some l1 ∧ fin l1 := by
  have p := h.pos; have z := k0.2; have c1 := k1.2; have c2 := k2.2; have ch := kh.2; have c100 := k100.2
  have hi := h.hi
  obtain ⟨⟨lt, fl, wl, el⟩, -⟩ := shift_word h.f h.w h.lo h.hi
  have pl : 0 < val lt := by grind
  have F1 : floatBits .add .f64 0 v = some v := add_ex k0.1 h.f h.f h.w p (by grind) (by have := one100; grind)
  have B1 : (1 : Rat) ≤ 2 ^ 100 := by decide +kernel
  have F2 : floatBits .quo .f64 v 4611686018427387904 = some lt := quo_ex h.f k2.1 fl wl (by rw [c2]; decide +kernel) pl (by rw [c2]; grind) (by grind)
  have F3 : floatBits .sub .f64 v 0 = some v := sub_ex h.f k0.1 h.f h.w p (by grind) (by grind)
  obtain ⟨n1, n2⟩ := negB_val wl fl
  obtain ⟨a2, F4, fa, m4⟩ := add_mono (negB lt) _ n1 k1.1 (by rw [n2, c1]; exact ab (y := 1) (by grind) (by grind) B1)
  have q4 := (m4 _ kh.1).2 (by rw [n2, c1, ch]; grind)
  rw [ch] at q4
  have hm : minB lt a2 = lt := by
    obtain ⟨e | e, x1, x2⟩ := minB_val fl fa
    · exact e
    · rw [e] at x1
      rw [e]
      exact val_inj fa fl (bits_lt F4) wl (by grind) (by grind)
  have F6 : floatBits .sub .f64 v lt = some lt := sub_ex h.f fl fl wl pl (by grind) (by grind)
  have F7 : floatBits .quo .f64 lt lt = some 4607182418800017408 := quo_ex fl fl k1.1 (by decide) (by grind) (by rw [c1]; decide +kernel) (by rw [c1, Rat.div_def]; exact Rat.mul_inv_cancel _ (by grind)) (by rw [c1]; exact B1)
  obtain ⟨l1, F8, f8, -⟩ := mul_mono lt _ fl k100.1 (by rw [c100]; exact ab (y := 100) (by grind) (by grind) (by decide +kernel))
  exact ⟨lt, a2, l1, F1, F2, F3, F4, hm, fl, pl, F6, F7, F8, f8⟩
theorem greyp {v : Nat} (h : V v) : ∃ sm l1, floatBits .add .f64 v v = some sm ∧ floatBits .quo .f64 sm 4611686018427387904 = some v ∧ floatBits .mul .f64 v 4636737291354636288 = some l1 ∧ fin l1 := by
  have p := h.pos; have c2 := k2.2; have c100 := k100.2; have hi := h.hi
  have B1 : (2 : Rat) ≤ 2 ^ 100 := by decide +kernel
  obtain ⟨-, sm, fs, ws, es⟩ := shift_word h.f h.w h.lo h.hi
  have F1 : floatBits .add .f64 v v = some sm := add_ex h.f h.f fs ws (by grind) (by grind) (by grind)
  have F2 : floatBits .quo .f64 sm 4611686018427387904 = some v := quo_ex fs k2.1 h.f h.w (by rw [c2]; decide +kernel) p (by rw [c2]; grind) (by grind)
  obtain ⟨l1, F8, f8, -⟩ := mul_mono v _ h.f k100.1 (by rw [c100]; exact ab (y := 100) (by grind) (by grind) (by decide +kernel))
  exact ⟨sm, l1, F1, F2, F8, f8⟩
theorem zero_over {v : Nat} (h : V v) : ∃ y, floatBits .quo .f64 0 v = some y ∧ fin y ∧ val y = 0 := by
  have p := h.pos; have z := k0.2
  obtain ⟨y, F, f, e⟩ := quo_v k0.1 h.f k0.1 (by grind) (by rw [z, Rat.div_def, Rat.zero_mul]) (by rw [z]; unfold Abs; decide +kernel)
  exact ⟨y, F, f, by rw [e, z]⟩
theorem v_over {v : Nat} (h : V v) : ∃ y, floatBits .quo .f64 v v = some y ∧ fin y ∧ val y = 1 := by
  have p := h.pos; have z := k1.2
  obtain ⟨y, F, f, e⟩ := quo_v h.f h.f k1.1 (by grind) (by rw [z, Rat.div_def]; exact Rat.mul_inv_cancel _ (by grind)) (by rw [z]; unfold Abs; decide +kernel)
  exact ⟨y, F, f, by rw [e, z]⟩
theorem minus_over {v : Nat} (h : V v) : ∃ x y, floatBits .sub .f64 0 v = some x ∧ floatBits .quo .f64 x v = some y ∧ fin y ∧ val y = -1 := by
  have p := h.pos; have z := k0.2; have cm := km1.2; have hi := h.hi
  obtain ⟨n1, n2⟩ := negB_val h.w h.f
  obtain ⟨x, F1, f1, e1⟩ := sub_v k0.1 h.f n1 (by grind) (by rw [n2]; have := one100; unfold Abs; constructor <;> grind)
  obtain ⟨y, F, f, e⟩ := quo_v f1 h.f km1.1 (by grind) (by rw [cm, e1, n2, Rat.div_def, Rat.neg_mul, Rat.mul_inv_cancel _ (by grind)]) (by rw [cm]; unfold Abs; decide +kernel)
  exact ⟨x, y, F1, F, f, by rw [e, cm]⟩
theorem plus_k {x k y : Nat} {a b c : Rat} (fx : fin x) (ex : val x = a) (hk : fin k ∧ val k = b) (hy : fin y ∧ val y = c) (h : a + b = c) (hc : Abs c (2 ^ 100)) : ∃ r, floatBits .add .f64 x k = some r ∧ fin r ∧ val r = c := by
  obtain ⟨r, F, f, e⟩ := add_v fx hk.1 hy.1 (by rw [ex, hk.2, hy.2]; exact h) (by rw [hy.2]; exact hc)
  exact ⟨r, F, f, by rw [e, hy.2]⟩
theorem times_60 {x y : Nat} {a c : Rat} (fx : fin x) (ex : val x = a) (hy : fin y ∧ val y = c) (h : a * 60 = c) (hc : Abs c (2 ^ 100)) : ∃ r, floatBits .mul .f64 x 4633641066610819072 = some r ∧ eqB r y = true := by
  obtain ⟨r, F, f, e⟩ := mul_v fx k60.1 hy.1 (by rw [ex, k60.2, hy.2]; exact h) (by rw [hy.2]; exact hc)
  exact ⟨r, F, (eqB_iff f hy.1).2 e⟩
end Rp
end Go.Proofs.Ytanaamlkiackbaa

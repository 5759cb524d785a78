/- math.cbrt in numbers, second part: the rough root by the bits, the chop, the whole. -/
import Derived.Test.YtpjbhbbhkhfiaaaCb
set_option linter.unusedSimpArgs false
set_option linter.unusedVariables false
set_option maxRecDepth 100000
namespace Go.Proofs.Ytpjbhbbhkhfiaaa.Flt
open Ieee Go
theorem val_norm (t k : Nat) (h1 : 2 ^ 52 ≤ k) (h2 : k < 2 ^ 53) (ht : t ≤ 2045) : fin (t * 2 ^ 52 + k) ∧ val (t * 2 ^ 52 + k) = (k : Rat) * two (-1074 + t) := by
  have := read_kept' false t k h2 (fun _ => h1) ht
  have e : sg false = 1 := rfl
  rw [e, Rat.one_mul] at this
  exact this
theorem pos_word' {x : Nat} (wx : x < 2 ^ 64) (fx : fin x) (h : 1 / 10 ^ 100 ≤ val x) : 2 ^ 52 ≤ x ∧ x < 2047 * 2 ^ 52 := by
  have e1 : x % F.signWeight = x % 2 ^ 63 := rfl
  have sgd : (x / F.signWeight % 2 == 1) = decide (2 ^ 63 ≤ x) := by
    show (x / 2 ^ 63 % 2 == 1) = _
    by_cases c : 2 ^ 63 ≤ x
    · rw [decide_eq_true c, show x / 2 ^ 63 = 1 by omega]; rfl
    · rw [decide_eq_false c, show x / 2 ^ 63 = 0 by omega]; rfl
  have hn : x % 2 ^ 63 < 2047 * 2 ^ 52 := by
    unfold fin Format.read at fx
    dsimp only at fx
    rw [e1] at fx
    by_cases c : x % 2 ^ 63 < 2047 * 2 ^ 52
    · exact c
    · exfalso
      rw [if_neg (show ¬ x % 2 ^ 63 < F.binade by show ¬ x % 2 ^ 63 < 2 ^ 52; omega), if_neg (show ¬ x % 2 ^ 63 < F.infRung from c)] at fx
      split at fx <;> exact fx
  have ew : x = F.word (decide (2 ^ 63 ≤ x)) (x % 2 ^ 63) := by
    by_cases c : 2 ^ 63 ≤ x
    · rw [decide_eq_true c]; show x = 2 ^ 63 + x % 2 ^ 63; omega
    · rw [decide_eq_false c]; show x = x % 2 ^ 63; omega
  have hv : val x = dval (F.read (F.word (decide (2 ^ 63 ≤ x)) (x % 2 ^ 63))) := by rw [← ew]; rfl
  rw [read_word _ _ hn] at hv
  have h0 : (0 : Rat) < 1 / 10 ^ 100 := by decide +kernel
  have tiny : (4503599627370496 : Rat) * two (-1074) < 1 / 10 ^ 100 := by unfold two; decide +kernel
  by_cases c : 2 ^ 63 ≤ x
  · exfalso
    rw [decide_eq_true c] at hv
    split at hv
    · have hv : val x = -1 * ((x % 2 ^ 63 : Nat) : Rat) * two (-1074) := hv
      have k1 : (0 : Rat) ≤ ((x % 2 ^ 63 : Nat) : Rat) := by exact_mod_cast Nat.zero_le _
      have k2 := Rat.mul_nonneg k1 (Rat.le_of_lt (two_pos (-1074)))
      grind
    · have hv : val x = -1 * ((2 ^ 52 + x % 2 ^ 63 % 2 ^ 52 : Nat) : Rat) * two (-1074 + (x % 2 ^ 63 / 2 ^ 52 - 1 : Nat)) := hv
      have k1 : (0 : Rat) ≤ ((2 ^ 52 + x % 2 ^ 63 % 2 ^ 52 : Nat) : Rat) := by exact_mod_cast Nat.zero_le _
      have k2 := Rat.mul_nonneg k1 (Rat.le_of_lt (two_pos (-1074 + (x % 2 ^ 63 / 2 ^ 52 - 1 : Nat))))
      grind
  · refine ⟨?_, by omega⟩
    by_cases c2 : 2 ^ 52 ≤ x
    · exact c2
    · exfalso
      rw [decide_eq_false c] at hv
      rw [if_pos (by omega)] at hv
      have hv : val x = 1 * ((x % 2 ^ 63 : Nat) : Rat) * two (-1074) := hv
      have k1 : ((x % 2 ^ 63 : Nat) : Rat) ≤ 4503599627370496 := by exact_mod_cast (show x % 2 ^ 63 ≤ 4503599627370496 by omega)
      have k2 := Rat.mul_le_mul_of_nonneg_right k1 (Rat.le_of_lt (two_pos (-1074)))
      grind
theorem cube_up {a b c : Rat} (h0 : 0 ≤ a) (h1 : a ≤ c) (h2 : c ≤ b) : c * c * c ≤ (a * a + a * b + b * b) * c - a * b * (a + b) := by
  have := Rat.mul_nonneg (Rat.mul_nonneg (show 0 ≤ c - a by grind) (show 0 ≤ b - c by grind)) (show 0 ≤ c + a + b by grind)
  grind
theorem cube_dn {a c : Rat} (h0 : 0 ≤ a) (h1 : 0 ≤ c) : 3 * (a * a) * c - 2 * (a * a * a) ≤ c * c * c := by
  have h : 0 ≤ (c - a) * (c - a) := by
    rcases Rat.le_total (a := 0) (b := c - a) with h | h
    · exact Rat.mul_nonneg h h
    · have := Rat.mul_nonneg (show 0 ≤ -(c - a) by grind) (show 0 ≤ -(c - a) by grind); grind
  have := Rat.mul_nonneg h (show 0 ≤ c + 2 * a by grind)
  grind
/-- the rough root against the number, in units of 2^52: j is the exponent's rest, g the root's rung, m the number's -/
theorem rough0 {c m : Rat} (h1 : 196693 / 100000 ≤ c) (h2 : c ≤ 2) (h3 : 3 * (c - 196694 / 100000) ≤ m) (h4 : m ≤ 3 * (c - 196692 / 100000)) (hm : 0 ≤ m) : 9 / 10 * (8 * (1 + m)) ≤ c * c * c ∧ c * c * c ≤ 11 / 10 * (8 * (1 + m)) := by
  have k1 := cube_dn (a := 2) (c := c) (by grind) (by grind)
  have k2 := cube_up (a := 196693 / 100000) (b := 2) (c := c) (by grind) (by grind) (by grind)
  constructor <;> grind
theorem rough1 {c m : Rat} (h1 : 1 ≤ c) (h2 : c ≤ 130028 / 100000) (h3 : 3 * (c - 96694 / 100000) ≤ m) (h4 : m ≤ 3 * (c - 96692 / 100000)) (hm : 0 ≤ m) : 9 / 10 * (1 + m) ≤ c * c * c ∧ c * c * c ≤ 11 / 10 * (1 + m) := by
  have k1 := cube_dn (a := 1) (c := c) (by grind) (by grind)
  have k2 := cube_up (a := 1) (b := 130028 / 100000) (c := c) (by grind) (by grind) (by grind)
  constructor <;> grind
theorem rough1' {c m : Rat} (h1 : 1 ≤ c) (h2 : c ≤ 130028 / 100000) (h3 : 3 * (c - 96694 / 100000) ≤ m) (h4 : m ≤ 3 * (c - 96692 / 100000)) (hm : 0 ≤ m) : 9 / 10 * (1 * (1 + m)) ≤ c * c * c ∧ c * c * c ≤ 11 / 10 * (1 * (1 + m)) := by rw [Rat.one_mul]; exact rough1 h1 h2 h3 h4 hm
theorem rough2 {c m : Rat} (h1 : 130025 / 100000 ≤ c) (h2 : c ≤ 163361 / 100000) (h3 : 3 * (c - 130028 / 100000) ≤ m) (h4 : m ≤ 3 * (c - 130025 / 100000)) (hm : 0 ≤ m) : 9 / 10 * (2 * (1 + m)) ≤ c * c * c ∧ c * c * c ≤ 11 / 10 * (2 * (1 + m)) := by
  have k1 := cube_dn (a := 134 / 100) (c := c) (by grind) (by grind)
  have k2 := cube_up (a := 130025 / 100000) (b := 163361 / 100000) (c := c) (by grind) (by grind) (by grind)
  constructor <;> grind
theorem rough3 {c m : Rat} (h1 : 163358 / 100000 ≤ c) (h2 : c ≤ 196694 / 100000) (h3 : 3 * (c - 163361 / 100000) ≤ m) (h4 : m ≤ 3 * (c - 163358 / 100000)) (hm : 0 ≤ m) : 9 / 10 * (4 * (1 + m)) ≤ c * c * c ∧ c * c * c ≤ 11 / 10 * (4 * (1 + m)) := by
  have k1 := cube_dn (a := 19 / 10) (c := c) (by grind) (by grind)
  have k2 := cube_up (a := 163358 / 100000) (b := 196694 / 100000) (c := c) (by grind) (by grind) (by grind)
  constructor <;> grind
/-- from units of 2^52 to the numbers -/
theorem rough_up {G M P K c m : Rat} (hP : 0 < P) (hG : G = 4503599627370496 * c) (hM : M = 4503599627370496 * (1 + m)) {N Q : Rat} (hN : Q = N * 20282409603651670423947251286016) (h : 9 / 10 * (N * (1 + m)) ≤ c * c * c ∧ c * c * c ≤ 11 / 10 * (N * (1 + m))) :
    9 / 10 * (M * (P * P * P * Q)) ≤ (G * P) * (G * P) * (G * P) ∧ (G * P) * (G * P) * (G * P) ≤ 11 / 10 * (M * (P * P * P * Q)) := by
  have hP3 := Rat.mul_pos (Rat.mul_pos hP hP) hP
  have e1 : (G * P) * (G * P) * (G * P) = (91343852333181432387730302044767688728495783936 * (c * c * c)) * (P * P * P) := by rw [hG]; grind
  have e2 : M * (P * P * P * Q) = (91343852333181432387730302044767688728495783936 * (N * (1 + m))) * (P * P * P) := by rw [hM, hN]; grind
  rw [e1, e2]
  have k1 := Rat.mul_le_mul_of_nonneg_right h.1 (Rat.le_of_lt hP3)
  have k2 := Rat.mul_le_mul_of_nonneg_right h.2 (Rat.le_of_lt hP3)
  generalize P * P * P = Z at *
  generalize c * c * c = y at *
  constructor <;> grind
theorem rough (x : Nat) (h1 : 2 ^ 52 ≤ x) (h2 : x < 2047 * 2 ^ 52) : fin (x / 3 + 3071306043645493248) ∧ 0 < val (x / 3 + 3071306043645493248) ∧
    9 / 10 * val x ≤ val (x / 3 + 3071306043645493248) * val (x / 3 + 3071306043645493248) * val (x / 3 + 3071306043645493248) ∧ val (x / 3 + 3071306043645493248) * val (x / 3 + 3071306043645493248) * val (x / 3 + 3071306043645493248) ≤ 11 / 10 * val x := by
  obtain ⟨q, j, m, hx, hj, hm, he⟩ : ∃ q j m, x = (3 * q + j) * 2 ^ 52 + m ∧ j < 3 ∧ m < 2 ^ 52 ∧ 1 ≤ 3 * q + j := ⟨x / 2 ^ 52 / 3, x / 2 ^ 52 % 3, x % 2 ^ 52, by omega, by omega, by omega, by omega⟩
  have hvx : val x = ((2 ^ 52 + m : Nat) : Rat) * two (-1074 + ((3 * q + j - 1 : Nat) : Int)) := by
    have := (val_norm (3 * q + j - 1) (2 ^ 52 + m) (by omega) (by omega) (by omega)).2
    rw [show (3 * q + j - 1) * 2 ^ 52 + (2 ^ 52 + m) = x by omega] at this
    exact this
  obtain ⟨f, hf⟩ : ∃ f, f = (j * 2 ^ 52 + m) / 3 := ⟨_, rfl⟩
  obtain ⟨g, hg⟩ : ∃ g, g = f + 4354697406185472 := ⟨_, rfl⟩
  obtain ⟨y, hy⟩ : ∃ y, y = x / 3 + 3071306043645493248 := ⟨_, rfl⟩
  have ht0 : y = (q + 681) * 2 ^ 52 + g := by omega
  rw [← hy]
  have hq : q ≤ 682 := by omega
  have i1 : (3 * (f : Rat)) ≤ (j : Rat) * 4503599627370496 + (m : Rat) := by exact_mod_cast (show 3 * f ≤ j * 4503599627370496 + m by omega)
  have i2 : (j : Rat) * 4503599627370496 + (m : Rat) ≤ 3 * (f : Rat) + 2 := by exact_mod_cast (show j * 4503599627370496 + m ≤ 3 * f + 2 by omega)
  have ig : (g : Rat) = (f : Rat) + 4354697406185472 := by rw [hg]; exact Rat.natCast_add _ _
  have im : (0 : Rat) ≤ (m : Rat) := by exact_mod_cast Nat.zero_le m
  have im2 : (m : Rat) ≤ 4503599627370496 := by exact_mod_cast (show m ≤ 4503599627370496 by omega)
  have if0 : (0 : Rat) ≤ (f : Rat) := by exact_mod_cast Nat.zero_le f
  have eM : ((2 ^ 52 + m : Nat) : Rat) = 4503599627370496 * (1 + (m : Rat) / 4503599627370496) := by push_cast; grind
  have hjm : j * 4503599627370496 + m ≤ 3 * f + 2 := by omega
  have hgx : g < 2 ^ 53 := by omega
  clear hf hy
  by_cases c : g < 2 ^ 52
  · have j0 : j = 0 := by omega
    subst j0
    clear hjm
    obtain ⟨k, hk⟩ : ∃ k, k = 4503599627370496 + g := ⟨_, rfl⟩
    have c1 : g < 4503599627370496 := c
    have k1 : 2 ^ 52 ≤ k := by clear hx hg ht0 hgx c; omega
    have k2 : k < 2 ^ 53 := by clear hx hg ht0 hgx c; omega
    obtain ⟨v1, v2⟩ := val_norm (q + 680) k k1 k2 (by omega)
    rw [show (q + 680) * 2 ^ 52 + k = y by omega] at v1 v2
    have hp := two_pos (-1074 + ((q + 680 : Nat) : Int))
    have e3 : two (-1074 + ((3 * q + 0 - 1 : Nat) : Int)) = two (-1074 + ((q + 680 : Nat) : Int)) * two (-1074 + ((q + 680 : Nat) : Int)) * two (-1074 + ((q + 680 : Nat) : Int)) * two 107 := by
      rw [← two_add, ← two_add, ← two_add]; congr 1; omega
    have e4 : two 107 = 8 * 20282409603651670423947251286016 := by unfold two; decide +kernel
    have ik : (k : Rat) = 4503599627370496 + (g : Rat) := by rw [hk]; exact Rat.natCast_add _ _
    have eG : (k : Rat) = 4503599627370496 * (1 + (g : Rat) / 4503599627370496) := by grind
    have ic : (g : Rat) ≤ 4503599627370496 := by exact_mod_cast (show g ≤ 4503599627370496 by omega)
    have i1' : 3 * (f : Rat) ≤ (m : Rat) := by simp at i1; grind
    have i2' : (m : Rat) ≤ 3 * (f : Rat) + 2 := by simp at i2; grind
    clear i1 i2
    have key := rough0 (c := 1 + (g : Rat) / 4503599627370496) (m := (m : Rat) / 4503599627370496) (by grind) (by grind) (by grind) (by grind) (by grind)
    have R := rough_up (K := 0) hp eG eM e4 key
    rw [v2, hvx, e3]
    have k0 : (0 : Rat) < (k : Rat) := by grind
    exact ⟨v1, Rat.mul_pos k0 hp, R⟩
  · obtain ⟨v1, v2⟩ := val_norm (q + 681) g (by omega) (by omega) (by omega)
    rw [← ht0] at v1 v2
    have hp := two_pos (-1074 + ((q + 681 : Nat) : Int))
    have eG : (g : Rat) = 4503599627370496 * ((g : Rat) / 4503599627370496) := by grind
    have ic : (4503599627370496 : Rat) ≤ (g : Rat) := by exact_mod_cast (show 4503599627370496 ≤ g by omega)
    have e3 : ∀ j : Nat, 1 ≤ 3 * q + j → two (-1074 + ((3 * q + j - 1 : Nat) : Int)) = two (-1074 + ((q + 681 : Nat) : Int)) * two (-1074 + ((q + 681 : Nat) : Int)) * two (-1074 + ((q + 681 : Nat) : Int)) * two (104 + (j : Int)) := fun j h => by
      rw [← two_add, ← two_add, ← two_add]; congr 1; omega
    rw [v2, hvx, e3 j he]
    have g0 : (0 : Rat) < (g : Rat) := by grind
    refine ⟨v1, Rat.mul_pos g0 hp, ?_⟩
    clear hvx e3 v2 v1 ht0 hx
    obtain rfl | rfl | rfl : j = 0 ∨ j = 1 ∨ j = 2 := by omega
    · have i1' : 3 * (f : Rat) ≤ (m : Rat) := by simp at i1; grind
      have i2' : (m : Rat) ≤ 3 * (f : Rat) + 2 := by simp at i2; grind
      clear i1 i2
      exact rough_up (K := 0) (N := 1) hp eG eM (by unfold two; decide +kernel) (rough1' (by grind) (by grind) (by grind) (by grind) (by grind))
    · have i1' : 3 * (f : Rat) ≤ 4503599627370496 + (m : Rat) := by simp at i1; grind
      have i2' : 4503599627370496 + (m : Rat) ≤ 3 * (f : Rat) + 2 := by simp at i2; grind
      clear i1 i2
      exact rough_up (K := 0) (N := 2) hp eG eM (by unfold two; decide +kernel) (rough2 (by grind) (by grind) (by grind) (by grind) (by grind))
    · have i1' : 3 * (f : Rat) ≤ 2 * 4503599627370496 + (m : Rat) := by simp at i1; grind
      have i2' : 2 * 4503599627370496 + (m : Rat) ≤ 3 * (f : Rat) + 2 := by simp at i2; grind
      clear i1 i2
      exact rough_up (K := 0) (N := 4) hp eG eM (by unfold two; decide +kernel) (rough3 (by grind) (by grind) (by grind) (by grind) (by grind))
theorem chop_num {k d P : Rat} (hp : 0 < P) (q1 : 4503599627370496 ≤ k) (q3 : d ≤ 1073741824) (q4 : 0 ≤ d) {v v' : Rat} (hv : v = k * P) (h : v' = (k + d) * P ∨ (v' = (k + d - 4503599627370496) * (2 * P) ∧ 9007199254740992 ≤ k + d ∧ k ≤ 9007199254740992)) : v ≤ v' ∧ v' ≤ v * (1 + 1 / 2000000) := by
  rcases h with h | ⟨h, h1, h2⟩
  · have k1 := Rat.mul_le_mul_of_nonneg_right (show k ≤ k + d by grind) (Rat.le_of_lt hp)
    have k2 := Rat.mul_le_mul_of_nonneg_right (show k + d ≤ k * (1 + 1 / 2000000) by grind) (Rat.le_of_lt hp)
    constructor <;> grind
  · have k1 := Rat.mul_le_mul_of_nonneg_right (show k ≤ 2 * (k + d - 4503599627370496) by grind) (Rat.le_of_lt hp)
    have k2 := Rat.mul_le_mul_of_nonneg_right (show 2 * (k + d - 4503599627370496) ≤ k * (1 + 1 / 2000000) by grind) (Rat.le_of_lt hp)
    constructor <;> grind
theorem chop (x d : Nat) (h1 : 2 ^ 52 ≤ x) (h2 : x < 2045 * 2 ^ 52) (hd : d ≤ 2 ^ 30) : fin (x + d) ∧ val x ≤ val (x + d) ∧ val (x + d) ≤ val x * (1 + 1 / 2000000) := by
  obtain ⟨y, hy⟩ : ∃ y, y = x + d := ⟨_, rfl⟩
  rw [← hy]
  obtain ⟨t, k, hx, k1, k2, ht⟩ : ∃ t k, x = t * 2 ^ 52 + k ∧ 2 ^ 52 ≤ k ∧ k < 2 ^ 53 ∧ t ≤ 2044 := ⟨x / 2 ^ 52 - 1, 2 ^ 52 + x % 2 ^ 52, by omega, by omega, by omega, by omega⟩
  have v1 : val x = (k : Rat) * two (-1074 + t) := by rw [hx]; exact (val_norm t k k1 k2 (by omega)).2
  have hp := two_pos (-1074 + (t : Int))
  have q1 : (4503599627370496 : Rat) ≤ (k : Rat) := by exact_mod_cast k1
  have q2 : (k : Rat) ≤ 9007199254740992 := by exact_mod_cast (show k ≤ 9007199254740992 by omega)
  have q3 : (d : Rat) ≤ 1073741824 := by exact_mod_cast (show d ≤ 1073741824 by omega)
  have q4 : (0 : Rat) ≤ (d : Rat) := by exact_mod_cast Nat.zero_le d
  by_cases c : k + d < 2 ^ 53
  · have V : fin y ∧ val y = ((k + d : Nat) : Rat) * two (-1074 + t) := by
      have := val_norm t (k + d) (by omega) c (by omega)
      rw [show t * 2 ^ 52 + (k + d) = y by omega] at this
      exact this
    exact ⟨V.1, chop_num hp q1 q3 q4 v1 (Or.inl (by rw [V.2, Rat.natCast_add]))⟩
  · have V : fin y ∧ val y = ((k + d - 2 ^ 52 : Nat) : Rat) * two (-1074 + ((t + 1 : Nat) : Int)) := by
      have := val_norm (t + 1) (k + d - 2 ^ 52) (by omega) (by omega) (by omega)
      rw [show (t + 1) * 2 ^ 52 + (k + d - 2 ^ 52) = y by omega] at this
      exact this
    have e : ((k + d - 2 ^ 52 : Nat) : Rat) = (k : Rat) + (d : Rat) - 4503599627370496 := by
      have : ((k + d - 2 ^ 52 : Nat) : Rat) + 4503599627370496 = (k : Rat) + (d : Rat) := by exact_mod_cast (show k + d - 2 ^ 52 + 4503599627370496 = k + d by omega)
      grind
    have q5 : (9007199254740992 : Rat) ≤ (k : Rat) + (d : Rat) := by exact_mod_cast (show 9007199254740992 ≤ k + d by omega)
    have e2 : two (-1074 + ((t + 1 : Nat) : Int)) = 2 * two (-1074 + (t : Int)) := by
      rw [show -1074 + ((t + 1 : Nat) : Int) = 1 + (-1074 + (t : Int)) by omega, two_add]
      have : two 1 = 2 := by unfold two; rfl
      rw [this]
    exact ⟨V.1, chop_num hp q1 q3 q4 v1 (Or.inr ⟨by rw [V.2, e, e2], q5, q2⟩)⟩
end Go.Proofs.Ytpjbhbbhkhfiaaa.Flt

/- The square root's accuracy. -/
import Derived.Test.YtkbgkogfjfojgaaDoorAcc
set_option linter.unusedSimpArgs false
set_option linter.unusedVariables false
set_option maxRecDepth 100000
namespace Go.Proofs.YtkbgkogfjfojgaaDoor
open Ieee Go
open Flt hiding F
/-- the whole root -/
theorem rootFrom_spec (n : Nat) : ∀ (todo root : Nat), root * root ≤ n → n < (root + 2 ^ todo) * (root + 2 ^ todo) →
    Datum.rootFrom n todo root * Datum.rootFrom n todo root ≤ n ∧ n < (Datum.rootFrom n todo root + 1) * (Datum.rootFrom n todo root + 1)
  | 0, root, h1, h2 => by simpa [Datum.rootFrom] using ⟨h1, h2⟩
  | todo + 1, root, h1, h2 => by
    unfold Datum.rootFrom
    dsimp only
    rw [Nat.one_shiftLeft]
    by_cases c : (root + 2 ^ todo) * (root + 2 ^ todo) ≤ n
    · rw [if_pos c]
      refine rootFrom_spec n todo _ c ?_
      have : root + 2 ^ todo + 2 ^ todo = root + 2 ^ (todo + 1) := by rw [Nat.pow_succ]; omega
      rw [this]; exact h2
    · rw [if_neg c]
      exact rootFrom_spec n todo root h1 (by omega)
theorem root_spec (n : Nat) (h : n ≠ 0) : Datum.rootFrom n (n.log2 / 2 + 1) 0 * Datum.rootFrom n (n.log2 / 2 + 1) 0 ≤ n ∧ n < (Datum.rootFrom n (n.log2 / 2 + 1) 0 + 1) * (Datum.rootFrom n (n.log2 / 2 + 1) 0 + 1) := by
  apply rootFrom_spec
  · simp
  · rw [Nat.zero_add, ← Nat.pow_add]
    have := Nat.lt_log2_self (n := n)
    exact Nat.lt_of_lt_of_le this (Nat.pow_le_pow_right (by decide) (by omega))
theorem sqrt_zero {x : Nat} (fx : Flt.fin x) (h : val x = 0) : ∃ r, Flt.F.sqrt x = some r ∧ Flt.fin r ∧ val r = 0 := by
  obtain ⟨s, m, i, e, -⟩ := fin_num fx
  have hm : m = 0 := by
    have hv : val x = sg s * (m : Rat) * two i := by unfold val; rw [e]; rfl
    by_cases c : m = 0
    · exact c
    · have : (0 : Rat) < (m : Rat) := by exact_mod_cast Nat.pos_of_ne_zero c
      have := Rat.mul_pos this (two_pos i)
      rw [h] at hv
      cases s <;> simp only [sg] at hv <;> grind
  subst hm
  refine ⟨Flt.F.word s 0, ?_, word_zero s⟩
  show ((Flt.F.read x).root 54).map Flt.F.write = _
  rw [e]
  show some (Flt.F.nearest s 0 i) = _
  unfold Format.nearest; rw [if_pos rfl]
/-- the root's square against the number -/
theorem root_rat {w n st : Nat} (hw1 : w * w ≤ n) (hw2 : n < (w + 1) * (w + 1)) (hst : st = (w * w != n).toNat) (hn : 2 ^ 108 ≤ n) : 2 ^ 53 * (2 * w + st) * (2 * w + st) ≤ 4 * (2 ^ 53 + 1) * n ∧ 4 * (2 ^ 53 - 1) * n ≤ 2 ^ 53 * (2 * w + st) * (2 * w + st) := by
  have hw : 2 ^ 54 ≤ w + 1 := by
    apply Nat.le_of_not_lt
    intro c
    have : (w + 1) * (w + 1) ≤ 2 ^ 54 * 2 ^ 54 := Nat.mul_le_mul (by omega) (by omega)
    omega
  have hww : 2 ^ 54 * w ≤ (w + 1) * w := Nat.mul_le_mul_right w hw
  have e1 : (w + 1) * (w + 1) = w * w + 2 * w + 1 := by grind
  have e2 : (w + 1) * w = w * w + w := by grind
  rw [e1] at hw2
  rw [e2] at hww
  cases e : (w * w != n) with
  | false =>
    rw [e] at hst
    have hq : w * w = n := by simpa using e
    have : st = 0 := hst
    subst this
    have e3 : 2 ^ 53 * (2 * w + 0) * (2 * w + 0) = 4 * 2 ^ 53 * (w * w) := by grind
    rw [e3, hq]
    constructor <;> omega
  | true =>
    rw [e] at hst
    have : st = 1 := hst
    subst this
    have e3 : 2 ^ 53 * (2 * w + 1) * (2 * w + 1) = 4 * 2 ^ 53 * (w * w) + 4 * 2 ^ 53 * w + 2 ^ 53 := by grind
    rw [e3]
    generalize w * w = V at *
    constructor <;> omega
theorem sqrt_near (x : Nat) (fx : Flt.fin x) (h0 : 1 / 10 ^ 250 ≤ val x) (h1 : val x ≤ 10 ^ 250) : ∃ r, Flt.F.sqrt x = some r ∧ Flt.fin r ∧ 0 < val r ∧ Abs (val r * val r - val x) (val x * (5 / 10 ^ 16)) := by
  obtain ⟨s, m, i, e, hm, -⟩ := fin_num fx
  have hv : val x = sg s * (m : Rat) * two i := by unfold val; rw [e]; rfl
  have hpos : 0 < val x := by have : (0 : Rat) < 1 / 10 ^ 250 := by decide +kernel
                              grind
  have hi := two_pos i
  have hm0 : m ≠ 0 := by intro c; subst c; rw [hv] at hpos; simp at hpos
  have hmr : (0 : Rat) < (m : Rat) := by exact_mod_cast Nat.pos_of_ne_zero hm0
  have hmi := Rat.mul_pos hmr hi
  have hs : s = false := by
    cases s with
    | false => rfl
    | true => rw [hv] at hpos; simp only [sg, if_true] at hpos; grind
  subst hs
  have hv2 : val x = (m : Rat) * two i := by rw [hv]; simp only [sg]; grind
  have hlm : m.log2 ≤ 52 := by have := (Nat.log2_lt hm0 (k := 53)).2 hm; omega
  obtain ⟨more, J, hmore, hJ, hbig⟩ : ∃ (more : Nat) (J : Int), more = 2 * 54 - m.log2 + ((i - (2 * 54 - m.log2 : Nat)) % 2).toNat ∧ i - more = 2 * J ∧ 108 ≤ m.log2 + more := by
    refine ⟨_, (i - ((2 * 54 - m.log2 + ((i - (2 * 54 - m.log2 : Nat)) % 2).toNat : Nat) : Int)) / 2, rfl, ?_, ?_⟩ <;> omega
  have hroot : Flt.F.sqrt x = some (Flt.F.nearest false (2 * Datum.rootFrom (m * 2 ^ more) ((m * 2 ^ more).log2 / 2 + 1) 0 + (Datum.rootFrom (m * 2 ^ more) ((m * 2 ^ more).log2 / 2 + 1) 0 * Datum.rootFrom (m * 2 ^ more) ((m * 2 ^ more).log2 / 2 + 1) 0 != m * 2 ^ more).toNat) (J - 1)) := by
    show ((Flt.F.read x).root 54).map Flt.F.write = _
    rw [e]
    show (if m = 0 then _ else if false = true then _ else _ : Option Datum).map Flt.F.write = _
    rw [if_neg hm0, if_neg (by decide)]
    dsimp only
    rw [← hmore, Nat.shiftLeft_eq, show (i - (more : Int)) / 2 - 1 = J - 1 by omega]
    rfl
  have hn0 : m * 2 ^ more ≠ 0 := Nat.mul_ne_zero hm0 (Nat.pos_iff_ne_zero.1 (Nat.two_pow_pos more))
  have hvn : val x = ((m * 2 ^ more : Nat) : Rat) * (two J * two J) := by
    rw [hv2, ← two_add]
    rw [show i = ((more : Int)) + (J + J) by omega, two_add, two_nat]
    push_cast; grind
  have hnbig : 2 ^ 108 ≤ m * 2 ^ more := by
    have l1 := Nat.log2_self_le hm0
    have := Nat.mul_le_mul_right (2 ^ more) l1
    rw [← Nat.pow_add] at this
    exact Nat.le_trans (Nat.pow_le_pow_right (by decide) hbig) this
  obtain ⟨w1, w2⟩ := root_spec _ hn0
  generalize m * 2 ^ more = n at *
  generalize hw : Datum.rootFrom n (n.log2 / 2 + 1) 0 = w at *
  obtain ⟨k1, k2⟩ := root_rat w1 w2 rfl hnbig
  generalize 2 * w + (w * w != n).toNat = g at *
  have hTJ := two_pos J
  have hJ1 : two (J - 1) * 2 = two J := by
    have := two_add (J - 1) 1
    rw [show J - 1 + 1 = J by omega] at this
    rw [this]
    have : two 1 = 2 := by unfold two; decide +kernel
    rw [this]
  have k1r : 9007199254740992 * (g : Rat) * (g : Rat) ≤ 4 * 9007199254740993 * (n : Rat) := by exact_mod_cast k1
  have k2r : 4 * 9007199254740991 * (n : Rat) ≤ 9007199254740992 * (g : Rat) * (g : Rat) := by exact_mod_cast k2
  have hg0 : (0 : Rat) ≤ (g : Rat) := by exact_mod_cast Nat.zero_le g
  have hR0 : 0 ≤ (g : Rat) * two (J - 1) := Rat.mul_nonneg hg0 (Rat.le_of_lt (two_pos _))
  have hRR : (g : Rat) * two (J - 1) * ((g : Rat) * two (J - 1)) * 4 = (g : Rat) * (g : Rat) * (two J * two J) := by rw [← hJ1]; grind
  have hT2 := Rat.mul_pos hTJ hTJ
  have r1 := Rat.mul_le_mul_of_nonneg_right k1r (Rat.le_of_lt hT2)
  have r2 := Rat.mul_le_mul_of_nonneg_right k2r (Rat.le_of_lt hT2)
  have s1 : 9007199254740992 * ((g : Rat) * two (J - 1) * ((g : Rat) * two (J - 1))) ≤ 9007199254740993 * val x := by rw [hvn]; grind
  have s2 : 9007199254740991 * val x ≤ 9007199254740992 * ((g : Rat) * two (J - 1) * ((g : Rat) * two (J - 1))) := by rw [hvn]; grind
  clear r1 r2 hRR k1r k2r k1 k2 hT2 hJ1 hTJ hvn hv hv2 hmi hi
  generalize hR : (g : Rat) * two (J - 1) = R at *
  -- R between 1e-126 and 1e126
  have b1 : R ≤ 10 ^ 130 := by
    refine Rat.not_lt.1 (fun h => ?_)
    have := Rat.mul_le_mul_of_nonneg_left (Rat.le_of_lt h) (show (0 : Rat) ≤ 10 ^ 130 by decide +kernel)
    have := Rat.mul_le_mul_of_nonneg_right (Rat.le_of_lt h) hR0
    have : (10 : Rat) ^ 130 * 10 ^ 130 = 10 ^ 260 := by decide +kernel
    have : (10 : Rat) ^ 250 * 100 ≤ 10 ^ 260 := by decide +kernel
    grind
  have b2 : 1 / 10 ^ 130 ≤ R := by
    refine Rat.not_lt.1 (fun h => ?_)
    have := Rat.mul_le_mul_of_nonneg_left (Rat.le_of_lt h) (show (0 : Rat) ≤ 1 / 10 ^ 130 by decide +kernel)
    have := Rat.mul_le_mul_of_nonneg_right (Rat.le_of_lt h) hR0
    have : (1 : Rat) / 10 ^ 130 * (1 / 10 ^ 130) = 1 / 10 ^ 260 := by decide +kernel
    have : (1 : Rat) / 10 ^ 260 * 100 ≤ 1 / 10 ^ 250 := by decide +kernel
    grind
  have l1 : (1 : Rat) / 10 ^ 290 ≤ 1 / 10 ^ 130 := by decide +kernel
  have l2 : (10 : Rat) ^ 130 ≤ 10 ^ 290 := by decide +kernel
  have hb := big300 (show R ≤ 10 ^ 290 by grind)
  obtain ⟨fr, nr⟩ := nearest_near false g (J - 1) R (by rw [hR]; exact Rat.le_refl) (by have := t1022_lt; grind)
  have he := eta_rel (show 1 / 10 ^ 290 ≤ R by grind)
  have hsg : sg false * (g : Rat) * two (J - 1) = R := by rw [← hR]; simp only [sg]; grind
  rw [hsg] at nr
  have nr2 := near_mono nr (show _ ≤ R * (12 / 10 ^ 17) by rw [uu_val]; grind)
  refine ⟨_, hroot, fr, ?_, ?_⟩
  · have : (0 : Rat) < 1 / 10 ^ 130 := by decide +kernel
    unfold Near at nr2
    grind
  · generalize val (Flt.F.nearest false g (J - 1)) = v at *
    have a1 : Abs (v - R) (R * (12 / 10 ^ 17)) := by unfold Near at nr2; unfold Abs; constructor <;> grind
    have a2 : Abs (v + R) (R * (201 / 100)) := by unfold Near at nr2; unfold Abs; constructor <;> grind
    have a3 := abs_mul a1 a2
    have e1 : (v - R) * (v + R) = v * v - R * R := by grind
    have e2 : R * (12 / 10 ^ 17) * (R * (201 / 100)) = (R * R) * (12 / 10 ^ 17 * (201 / 100)) := by grind
    rw [e1, e2] at a3
    unfold Abs at a3 ⊢
    generalize R * R = Q at *
    generalize v * v = V at *
    constructor <;> grind
end Go.Proofs.YtkbgkogfjfojgaaDoor

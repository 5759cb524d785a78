/- A float between 0 and 9 turned into a whole number. -/
import Derived.Test.YtkbgkogfjfojgaaDoorFl2
import Derived.Laws.FloatArith
set_option linter.unusedSimpArgs false
set_option linter.unusedVariables false
namespace Go.Proofs.YtkbgkogfjfojgaaDoor.Flt
open Ieee Go
theorem cutz (s : Bool) (m n : Nat) : Toward.zero.cut s m n * 2 ^ n ≤ m ∧ m < (Toward.zero.cut s m n + 1) * 2 ^ n := by
  unfold Toward.cut
  dsimp only
  rw [Nat.one_shiftLeft]
  have hp := Nat.two_pow_pos n
  by_cases hd : n ≤ m.log2 + 2
  · rw [Nat.min_eq_left hd]
    have q := Nat.div_add_mod m (2 ^ n)
    have r := Nat.mod_lt m hp
    generalize 2 ^ n = G at *
    generalize m / G = a at *
    generalize m % G = b at *
    simp only [Bool.toNat_false, Nat.add_zero]
    rw [Nat.add_mul, Nat.mul_comm a G]; omega
  · rw [Nat.min_eq_right (by omega)]
    have h1 : m < 2 ^ (m.log2 + 1) := Nat.lt_log2_self
    have h2 : 2 ^ (m.log2 + 2) = 2 * 2 ^ (m.log2 + 1) := by rw [Nat.pow_succ]; omega
    have h3 : 2 ^ (m.log2 + 2) ≤ 2 ^ n := Nat.pow_le_pow_right (by decide) (by omega)
    have h4 : m / 2 ^ (m.log2 + 2) = 0 := Nat.div_eq_of_lt (by omega)
    rw [h4]
    simp only [Bool.toNat_false, Nat.add_zero, Nat.zero_mul, Nat.zero_add, Nat.one_mul]
    omega
theorem toInt_ex {x : Nat} (hx : fin x) (h0 : 0 ≤ val x) (h9 : val x < 9) : ∃ j : Nat, j ≤ 8 ∧ floatToIntVal .f64 x .u64 = some (j : Int) ∧ (j : Rat) ≤ val x ∧ val x < (j : Rat) + 1 := by
  obtain ⟨s, m, i, e, hm, hi1, hi2, hsub⟩ := fin_num hx
  have hv : val x = sg s * (m : Rat) * two i := by unfold val; rw [e]; rfl
  have hs : s = true → m = 0 := fun h => by
    subst h
    have h2 : sg true = -1 := rfl
    rw [h2] at hv
    have hp := two_pos i
    refine Nat.eq_zero_of_not_pos (fun hm0 => ?_)
    have h3 : (0 : Rat) < (m : Rat) := Rat.natCast_lt_natCast.2 hm0
    have := Rat.mul_pos h3 hp
    grind
  have hv' : val x = (m : Rat) * two i := by
    cases s with
    | false => rw [hv]; show (1 : Rat) * _ * _ = _; grind
    | true => rw [hv, hs rfl]; have : ((0 : Nat) : Rat) = 0 := rfl; rw [this]; grind
  by_cases h : 0 ≤ i
  · exfalso
    have hm1 : 2 ^ 52 ≤ m := by
      apply Nat.le_of_not_lt; intro c; have := hsub c; omega
    have h1 : (9 : Rat) ≤ (m : Rat) := Rat.natCast_le_natCast.2 (show 9 ≤ m by omega)
    have h2 := two_mono h
    rw [two_zero] at h2
    have := Rat.mul_nonneg (show 0 ≤ (m : Rat) - 9 by grind) (show 0 ≤ two i - 1 by grind)
    grind
  · obtain ⟨n, hn⟩ : ∃ n : Nat, i = -n := ⟨(-i).toNat, by omega⟩
    subst hn
    obtain ⟨c1, c2⟩ := cutz s m n
    obtain ⟨c, hc⟩ : ∃ c, Toward.zero.cut s m n = c := ⟨_, rfl⟩
    rw [hc] at c1 c2
    have ht : two (n : Int) * two (-(n : Int)) = 1 := by
      rw [← two_add, show (n : Int) + -(n : Int) = 0 by omega, two_zero]
    rw [two_nat] at ht
    have hp := two_pos (-(n : Int))
    have k1 : ((c * 2 ^ n : Nat) : Rat) ≤ (m : Rat) := Rat.natCast_le_natCast.2 c1
    have k2 : (m : Rat) < (((c + 1) * 2 ^ n : Nat) : Rat) := Rat.natCast_lt_natCast.2 c2
    rw [Rat.natCast_mul] at k1 k2
    rw [Rat.natCast_add] at k2
    have one : ((1 : Nat) : Rat) = 1 := rfl
    rw [one] at k2
    generalize ((2 ^ n : Nat) : Rat) = G at *
    generalize two (-(n : Int)) = t at *
    have l1 : (c : Rat) ≤ val x := by
      have := Rat.mul_nonneg (show 0 ≤ (m : Rat) - c * G by grind) (Rat.le_of_lt hp)
      rw [hv']
      have e2 : (c : Rat) * G * t = c := by rw [Rat.mul_assoc, ht, Rat.mul_one]
      grind
    have l2 : val x < (c : Rat) + 1 := by
      have := Rat.mul_pos (show 0 < ((c : Rat) + 1) * G - m by grind) hp
      rw [hv']
      have e2 : ((c : Rat) + 1) * G * t = c + 1 := by rw [Rat.mul_assoc, ht, Rat.mul_one]
      grind
    have hc8 : c ≤ 8 := by
      refine Nat.le_of_not_lt (fun q => ?_)
      have : ((9 : Nat) : Rat) ≤ (c : Rat) := Rat.natCast_le_natCast.2 q
      have n9 : ((9 : Nat) : Rat) = 9 := rfl
      rw [n9] at this
      grind
    refine ⟨c, hc8, ?_, l1, l2⟩
    have hdec : (FloatKind.f64.decode x).toInt .zero = some (signed s c 0) := by
      show (F.read x).toInt .zero = _
      rw [e]
      show some (signed s (Toward.zero.cut s (m <<< (-(n : Int)).toNat) (- -(n : Int)).toNat) 0) = _
      rw [show (-(n : Int)).toNat = 0 by omega, show (- -(n : Int)).toNat = n by omega, Nat.shiftLeft_zero, hc]
    have hsg : signed s c 0 = (c : Int) := by
      cases s with
      | false => rfl
      | true =>
        have hm0 := hs rfl
        have : c = 0 := by
          rw [hm0] at c1
          have hp2 := Nat.two_pow_pos n
          rcases Nat.mul_eq_zero.1 (Nat.le_zero.1 c1) with q | q
          · exact q
          · omega
        rw [this]; rfl
    unfold floatToIntVal
    rw [hdec, hsg]
    have b1 : IntKind.u64.min = 0 := by decide
    have b2 : IntKind.u64.max = 18446744073709551615 := by decide
    simp only [b1, b2]
    rw [if_pos (by omega)]
end Go.Proofs.YtkbgkogfjfojgaaDoor.Flt

/- The angle that atan2 gives, and the hue made of it. -/
import Derived.Test.YtkbgkogfjfojgaaDoorAcc
import Derived.Test.YtkbgkogfjfojgaaDoorDir
import Derived.Test.YtkbgkogfjfojgaaDoorHue
set_option linter.unusedSimpArgs false
set_option linter.unusedVariables false
set_option maxRecDepth 100000
namespace Go.Proofs.YtkbgkogfjfojgaaDoor
open Go.RowKit
open Ieee Go
open Flt
open Pc (atanP p4 Br)
theorem vPI2 : val 4609753056924675352 = 2 * p4 := by rw [cPI2.2]; unfold p4; decide +kernel
theorem vPI4 : val 4605249457297304856 = p4 := by rw [cPI4.2]; unfold p4; decide +kernel
theorem vPI : val 4614256656552045848 = 4 * p4 := by rw [cPI.2]; unfold p4 pP; decide +kernel
theorem Br.mono {p q a e f : Rat} (h : Br p q a e) (hf : e ≤ f) : Br p q a f := by
  rcases h with ⟨u, h1, h2, h3, h4⟩ | ⟨u, h1, h2, h3, h4⟩ | ⟨u, h1, h2, h3, h4⟩
  · exact .inl ⟨u, h1, h2, h3, Pc.bd_mono h4 hf⟩
  · exact .inr (.inl ⟨u, h1, h2, h3, Pc.bd_mono h4 hf⟩)
  · exact .inr (.inr ⟨u, h1, h2, h3, Pc.bd_mono h4 hf⟩)
theorem sat_acc (x : Nat) (fx : Flt.fin x) (p q : Rat) (hp : 0 ≤ p ∧ p ≤ 101 / 100) (hq : 0 ≤ q ∧ q ≤ 101 / 100) (h1 : 1 / 10 ^ 240 ≤ val x) (h2 : val x ≤ 10 ^ 240) (hxq : Pc.Bd (q - val x * p) (4 / 10 ^ 16)) : ∃ t a, SatP x t ∧ Flt.fin t ∧ Br p q a (2 / 10 ^ 15) ∧ Near (val t) a (6 / 10 ^ 15) ∧ 1 / 10 ^ 260 ≤ val t := by
  have s240 : (0 : Rat) < 1 / 10 ^ 240 := by decide +kernel
  have h0 : 0 < val x := by grind
  have lo1 : (1 : Rat) / 10 ^ 290 ≤ 2 := by decide +kernel
  have hi1 : (4 : Rat) ≤ 10 ^ 290 := by decide +kernel
  have lo2 : (1 : Rat) / 10 ^ 260 ≤ 1 / 10 := by decide +kernel
  have hp4 := Pc.p4_bd
  by_cases c1 : val x ≤ val 4604119971053405471
  · have c1' := c1
    rw [c066.2] at c1
    obtain ⟨t, X, f, n, lo⟩ := xat_acc x fx (by unfold Abs; constructor <;> grind)
    have l250 : (1 : Rat) / 10 ^ 250 ≤ 1 / 10 ^ 240 := by decide +kernel
    have l260 : (1 : Rat) / 10 ^ 260 ≤ 1 / 10 ^ 240 / 4 := by decide +kernel
    have lo' := lo (by grind)
    exact ⟨t, _, .low ((leB_iff fx c066.1).2 c1') X, f, .inl ⟨val x, Rat.le_of_lt h0, by grind, rfl, Pc.bd_mono hxq (by decide +kernel)⟩, near_mono n (by decide +kernel), by grind⟩
  have n1 : leB x 4604119971053405471 = false := by
    cases e : leB x 4604119971053405471
    · rfl
    · exact absurd ((leB_iff fx c066.1).1 e) c1
  rw [c066.2] at c1
  by_cases c2 : val 4612618744449965542 < val x
  · have g2 : gtB x 4612618744449965542 = true := (gtB_iff fx cT.1).2 c2
    rw [cT.2] at c2
    have hyx : 1 / val x * val x = 1 := Rat.div_mul_cancel (by grind)
    generalize hy : 1 / val x = y at hyx
    have y0 : 0 < y := by
      refine Rat.not_le.1 (fun c => ?_)
      have := Rat.mul_nonneg (show 0 ≤ -y by grind) (Rat.le_of_lt h0)
      grind
    have y1 : y ≤ 4143 / 10000 := by
      refine Rat.not_lt.1 (fun c => ?_)
      have := Rat.mul_pos (show 0 < y - 4143 / 10000 by grind) h0
      grind
    have y2 : 1 / 10 ^ 240 ≤ y := by
      refine Rat.not_lt.1 (fun c => ?_)
      have k := Rat.mul_le_mul_of_nonneg_left h2 (Rat.le_of_lt y0)
      have k2 := Rat.mul_pos (show 0 < 1 / 10 ^ 240 - y by grind) (show (0 : Rat) < 10 ^ 240 by decide +kernel)
      have : (1 : Rat) / 10 ^ 240 * 10 ^ 240 = 1 := by decide +kernel
      grind
    have hd : Abs (val 4607182418800017408 / val x) y := by rw [c1_.2, hy]; unfold Abs; constructor <;> grind
    have l290 : (1 : Rat) / 10 ^ 290 ≤ 1 / 10 ^ 240 := by decide +kernel
    obtain ⟨i, H⟩ := div_b c1_.1 fx (by grind) (D := 1 / 2) (abs_le hd (by grind)) (by grind)
    obtain ⟨fi, ni⟩ := quo_rel c1_.1 fx (by grind) y hd (by grind) (by grind) H.bits
    rw [c1_.2, hy] at ni
    have u1 : 0 ≤ val i := by unfold Near at ni; grind
    have u2 : val i ≤ 42 / 100 := by unfold Near at ni; grind
    obtain ⟨r, X, fr, nr, -⟩ := xat_acc i fi (by unfold Abs; constructor <;> grind)
    have ra := Pc.atan_pos (val i) u1 (by grind)
    obtain ⟨s, S⟩ := sub_b cPI2.1 fr (A := 2) (B := 2) aPI2 (by unfold Near at nr; unfold Abs; constructor <;> grind) (by grind)
    obtain ⟨fs, ns⟩ := sub_rel cPI2.1 fr 2 (by rw [vPI2]; unfold Near at nr; unfold Abs; constructor <;> grind) lo1 (by grind) S.bits
    rw [vPI2] at ns
    obtain ⟨t, TT⟩ := add_b fs cMB.1 (A := 2) (B := 1) (by unfold Near at ns nr; unfold Abs; constructor <;> grind) aMB (by grind)
    obtain ⟨ft, nt⟩ := add_rel fs cMB.1 2 (by rw [cMB.2]; unfold Near at ns nr; unfold Abs; constructor <;> grind) lo1 (by grind) TT.bits
    rw [cMB.2] at nt
    have hr : Pc.Bd (p - val i * q) (2 / 10 ^ 15) := by
      have k1 : Pc.Bd (1 - val i * val x) (34 / 10 ^ 17) := by
        have a1 : Pc.Bd (y - val i) (y * (34 / 10 ^ 17)) := by unfold Near at ni; unfold Pc.Bd; constructor <;> grind
        have a2 : Pc.Bd (val x) (val x) := by unfold Pc.Bd; constructor <;> grind
        have a3 := Pc.bd_mul a1 a2
        have e1 : (y - val i) * val x = 1 - val i * val x := by grind
        have e2 : y * (34 / 10 ^ 17) * val x = 34 / 10 ^ 17 := by
          have : y * (34 / 10 ^ 17) * val x = y * val x * (34 / 10 ^ 17) := by grind
          rw [this, hyx]; grind
        rwa [e1, e2] at a3
      have k2 := Pc.bd_mul k1 (show Pc.Bd p (101 / 100) by unfold Pc.Bd; constructor <;> grind)
      have k3 := Pc.bd_mul (show Pc.Bd (val i) (42 / 100) by unfold Pc.Bd; constructor <;> grind) hxq
      have e1 : p - val i * q = (1 - val i * val x) * p + -(val i * (q - val x * p)) := by grind
      rw [e1]
      exact Pc.bd_mono (Pc.bd_add k2 (Pc.bd_neg k3)) (by decide +kernel)
    refine ⟨t, _, .high i r s n1 g2 H.bits X S.bits TT.bits, ft, .inr (.inl ⟨val i, u1, u2, rfl, hr⟩), ?_, ?_⟩
    · unfold Near at *; constructor <;> grind
    · unfold Near at *; grind
  · have g2 : gtB x 4612618744449965542 = false := by
      cases e : gtB x 4612618744449965542
      · rfl
      · exact absurd ((gtB_iff fx cT.1).1 e) c2
    rw [cT.2] at c2
    have hx : Abs (val x) 3 := by unfold Abs; constructor <;> grind
    have h1' : Abs (val 4607182418800017408) 1 := by rw [c1_.2]; unfold Abs; constructor <;> grind
    obtain ⟨a, Ha⟩ := sub_b fx c1_.1 hx h1' (by grind)
    obtain ⟨b, Hb⟩ := add_b fx c1_.1 hx h1' (by grind)
    obtain ⟨fa, na⟩ := sub_rel fx c1_.1 2 (by rw [c1_.2]; unfold Abs; constructor <;> grind) lo1 (by grind) Ha.bits
    obtain ⟨fb, nb⟩ := add_rel fx c1_.1 4 (by rw [c1_.2]; unfold Abs; constructor <;> grind) (by grind) hi1 Hb.bits
    rw [c1_.2] at na nb
    unfold Near at na nb
    have hb0 : 0 < val b := by grind
    have hd : Abs (val a / val b) (1 / 2) := abs_div hb0 (by grind) (by grind)
    obtain ⟨c, Hc⟩ := div_b fa fb (by grind) hd (by grind)
    obtain ⟨fc, nc⟩ := quo_rel fa fb (by grind) (1 / 2) hd (by decide +kernel) (by decide +kernel) Hc.bits
    have hq' : val a / val b * val b = val a := Rat.div_mul_cancel (by grind)
    generalize val a / val b = w at *
    have w1 : -208 / 1000 ≤ w := by
      refine Rat.not_lt.1 (fun k => ?_)
      have := Rat.mul_pos (show 0 < -208 / 1000 - w by grind) hb0
      grind
    have w2 : w ≤ 417 / 1000 := by
      refine Rat.not_lt.1 (fun k => ?_)
      have := Rat.mul_pos (show 0 < w - 417 / 1000 by grind) hb0
      grind
    have v1 : -21 / 100 ≤ val c := by unfold Near at nc; grind
    have v2 : val c ≤ 42 / 100 := by unfold Near at nc; grind
    obtain ⟨r, X, fr, nr, -⟩ := xat_acc c fc (by unfold Abs; constructor <;> grind)
    have ra := Pc.atan_small (val c) v1 v2
    obtain ⟨s, S⟩ := add_b cPI4.1 fr (A := 2) (B := 2) aPI4 (by unfold Near at nr; unfold Abs; constructor <;> grind) (by grind)
    obtain ⟨fs, ns⟩ := add_rel cPI4.1 fr 2 (by rw [vPI4]; unfold Near at nr; unfold Abs; constructor <;> grind) lo1 (by grind) S.bits
    rw [vPI4] at ns
    obtain ⟨t, TT⟩ := add_b fs cMB2.1 (A := 2) (B := 1) (by unfold Near at ns nr; unfold Abs; constructor <;> grind) aMB2 (by grind)
    obtain ⟨ft, nt⟩ := add_rel fs cMB2.1 2 (by rw [cMB2.2]; unfold Near at ns nr; unfold Abs; constructor <;> grind) lo1 (by grind) TT.bits
    rw [cMB2.2] at nt
    have hr : Pc.Bd ((q - p) - val c * (p + q)) (2 / 10 ^ 15) := by
      have a1 : Pc.Bd (val a - (val x - 1)) (24 / 10 ^ 17) := by unfold Pc.Bd; constructor <;> grind
      have a2 : Pc.Bd (val b - (val x + 1)) (48 / 10 ^ 17) := by unfold Pc.Bd; constructor <;> grind
      have a3 : Pc.Bd (val c - w) (17 / 10 ^ 17) := by unfold Near at nc; unfold Pc.Bd; constructor <;> grind
      have bb : Pc.Bd (val b) (35 / 10) := by unfold Pc.Bd; constructor <;> grind
      have bv : Pc.Bd (val c) (42 / 100) := by unfold Pc.Bd; constructor <;> grind
      have m1 := Pc.bd_mul a3 bb
      have m2 := Pc.bd_mul bv a2
      have k1 : Pc.Bd ((val x - 1) - val c * (val x + 1)) (105 / 10 ^ 17) := by
        have e1 : (val x - 1) - val c * (val x + 1) = -(val a - (val x - 1)) + (-((val c - w) * val b) + val c * (val b - (val x + 1))) := by
          have : (val c - w) * val b = val c * val b - val a := by rw [← hq']; grind
          rw [this]; grind
        rw [e1]
        exact Pc.bd_mono (Pc.bd_add (Pc.bd_neg a1) (Pc.bd_add (Pc.bd_neg m1) m2)) (by decide +kernel)
      have k2 := Pc.bd_mul k1 (show Pc.Bd p (101 / 100) by unfold Pc.Bd; constructor <;> grind)
      have k3 := Pc.bd_mul (show Pc.Bd (1 - val c) (121 / 100) by unfold Pc.Bd; constructor <;> grind) hxq
      have e1 : (q - p) - val c * (p + q) = ((val x - 1) - val c * (val x + 1)) * p + (1 - val c) * (q - val x * p) := by grind
      rw [e1]
      exact Pc.bd_mono (Pc.bd_add k2 k3) (by decide +kernel)
    refine ⟨t, _, .mid a b c r s n1 g2 Ha.bits Hb.bits Hc.bits X S.bits TT.bits, ft, .inr (.inr ⟨val c, v1, v2, rfl, hr⟩), ?_, ?_⟩
    · unfold Near at *; constructor <;> grind
    · unfold Near at *; grind
end Go.Proofs.YtkbgkogfjfojgaaDoor

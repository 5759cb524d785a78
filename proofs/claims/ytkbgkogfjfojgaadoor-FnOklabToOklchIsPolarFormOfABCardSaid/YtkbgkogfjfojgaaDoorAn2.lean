/- The angle that atan2 gives, and the hue made of it. -/
import Derived.Test.YtkbgkogfjfojgaaDoorAng
set_option linter.unusedSimpArgs false
set_option linter.unusedVariables false
set_option maxRecDepth 100000
namespace Go.Proofs.YtkbgkogfjfojgaaDoor
open Go.RowKit
open Ieee Go
open Flt
open Pc (atanP p4 Br)
theorem atan_zero : atanP 0 = 0 := by unfold atanP; exact Rat.zero_mul _
/-- where the angle w lies, for the point (A, B) = (+-P, +-Q) -/
def Quad (w a A B P Q E : Rat) : Prop :=
  (0 ≤ w ∧ Near w a E ∧ A = P ∧ B = Q) ∨ (Near w (4 * p4 - a) E ∧ A = -P ∧ B = Q) ∨ (Near w (a - 4 * p4) E ∧ A = -P ∧ B = -Q) ∨ (w ≤ -(1 / 10 ^ 260) ∧ Near w (-a) E ∧ A = P ∧ B = -Q)
theorem word_nz {s : Bool} {r : Nat} (h : r < top) (hv : val (F.word s r) ≠ 0) : r ≠ 0 := fun c => by subst c; exact hv (word_zero s).2
theorem top_inf (s : Bool) : ¬ Flt.fin (F.word s top) := fun h => by
  unfold Flt.fin at h; rw [read_top] at h; exact h
/-- the general case's quotient -/
theorem quo_ex (sb sa : Bool) (rb ra : Nat) (hb : rb < top) (ha : ra < top) (p q ρ : Rat) (hρ : 0 < ρ) (hp : val (F.word false ra) = p * ρ) (hq : val (F.word false rb) = q * ρ) (hp1 : 0 ≤ p ∧ p ≤ 101 / 100) (hq1 : 0 ≤ q ∧ q ≤ 101 / 100)
    (ma : 1 / 10 ^ 101 ≤ val (F.word false ra) ∧ val (F.word false ra) ≤ 10 ^ 101) (mb : 1 / 10 ^ 101 ≤ val (F.word false rb) ∧ val (F.word false rb) ≤ 10 ^ 101) :
    ∃ rr, rr < top ∧ rr ≠ 0 ∧ floatBits .quo .f64 (F.word sb rb) (F.word sa ra) = some (F.word (sb ^^ sa) rr) ∧ 1 / 10 ^ 240 ≤ val (F.word false rr) ∧ val (F.word false rr) ≤ 10 ^ 240 ∧ Pc.Bd (q - val (F.word false rr) * p) (4 / 10 ^ 16) := by
  have l100 : (0 : Rat) < 1 / 10 ^ 101 := by decide +kernel
  have va := word_val sa ra ha
  have vb := word_val sb rb hb
  have hva : val (F.word sa ra) ≠ 0 := by cases sa <;> simp at va <;> grind
  obtain ⟨s, rr, hrr, d1, -, -⟩ := quo_signs (word_lt sb rb (by omega)) (word_lt sa ra (by omega)) (word_fin sb rb hb) (word_fin sa ra ha) hva
  generalize hα : val (F.word false ra) = α at *
  generalize hβ : val (F.word false rb) = β at *
  have hg : β / α * α = β := Rat.div_mul_cancel (by grind)
  generalize hgg : β / α = g at hg
  have g0 : 0 < g := by
    refine Rat.not_le.1 (fun c => ?_)
    have := Rat.mul_nonneg (show 0 ≤ -g by grind) (show 0 ≤ α by grind)
    grind
  have g1 : g ≤ 10 ^ 202 := by
    refine Rat.not_lt.1 (fun c => ?_)
    have k1 := Rat.mul_pos (show 0 < g - 10 ^ 202 by grind) (show 0 < α by grind)
    have k2 := Rat.mul_le_mul_of_nonneg_left ma.1 (show (0 : Rat) ≤ 10 ^ 202 by decide +kernel)
    have : (10 : Rat) ^ 202 * (1 / 10 ^ 101) = 10 ^ 101 := by decide +kernel
    grind
  have g2 : 1 / 10 ^ 202 ≤ g := by
    refine Rat.not_lt.1 (fun c => ?_)
    have k1 := Rat.mul_pos (show 0 < 1 / 10 ^ 202 - g by grind) (show 0 < α by grind)
    have k2 := Rat.mul_le_mul_of_nonneg_left ma.2 (show (0 : Rat) ≤ 1 / 10 ^ 202 by decide +kernel)
    have : (1 : Rat) / 10 ^ 202 * 10 ^ 101 = 1 / 10 ^ 101 := by decide +kernel
    grind
  have hquo : val (F.word sb rb) / val (F.word sa ra) = if (sb ^^ sa) = true then -g else g := by
    have e : val (F.word sb rb) / val (F.word sa ra) * val (F.word sa ra) = val (F.word sb rb) := Rat.div_mul_cancel hva
    have e2 : (val (F.word sb rb) / val (F.word sa ra) - (if (sb ^^ sa) = true then -g else g)) * val (F.word sa ra) = 0 := by
      rw [va, vb] at *
      cases sa <;> cases sb <;> simp at * <;> grind
    rcases Rat.mul_eq_zero.1 e2 with k | k
    · grind
    · exact absurd k hva
  have l1 : (1 : Rat) / 10 ^ 290 ≤ 1 / 10 ^ 202 := by decide +kernel
  have l2 : (10 : Rat) ^ 202 ≤ 10 ^ 290 := by decide +kernel
  have l3 : (1 : Rat) / 10 ^ 240 ≤ 1 / 10 ^ 202 / 2 := by decide +kernel
  have l4 : (10 : Rat) ^ 202 * 2 ≤ 10 ^ 240 := by decide +kernel
  obtain ⟨fr, nr⟩ := quo_rel (word_fin sb rb hb) (word_fin sa ra ha) hva g (by rw [hquo]; cases sb <;> cases sa <;> simp <;> unfold Abs <;> constructor <;> grind) (by grind) (by grind) d1
  rw [hquo] at nr
  have hrt : rr ≠ top := fun c => by subst c; exact top_inf s fr
  have hrt' : rr < top := by omega
  have vr := word_val s rr hrt'
  have x0 : 0 ≤ val (F.word false rr) := by
    by_cases c : rr = 0
    · subst c; rw [(word_zero false).2]; exact Rat.le_refl
    · exact Rat.le_of_lt (word_pos rr (by omega) hrt')
  have hs : s = (sb ^^ sa) ∧ Near (val (F.word false rr)) g (g * (34 / 10 ^ 17)) := by
    rw [vr] at nr
    generalize val (F.word false rr) = X at *
    generalize (sb ^^ sa) = z at *
    unfold Near at *
    cases s <;> cases z <;> simp at nr ⊢ <;> grind
  obtain ⟨rfl, nX⟩ := hs
  refine ⟨rr, hrt', ?_, d1, by unfold Near at nX; grind, by unfold Near at nX; grind, ?_⟩
  · intro c
    subst c
    rw [(word_zero false).2] at nX
    unfold Near at nX
    grind
  · have hgp : g * p = q := by
      have : (g * p - q) * ρ = 0 := by grind
      rcases Rat.mul_eq_zero.1 this with k | k
      · grind
      · grind
    have a1 : Pc.Bd (g - val (F.word false rr)) (g * (34 / 10 ^ 17)) := by unfold Near at nX; unfold Pc.Bd; constructor <;> grind
    have a2 := Pc.bd_mul a1 (show Pc.Bd p p by unfold Pc.Bd; constructor <;> grind)
    have e1 : (g - val (F.word false rr)) * p = q - val (F.word false rr) * p := by grind
    have e2 : g * (34 / 10 ^ 17) * p = q * (34 / 10 ^ 17) := by grind
    rw [e1, e2] at a2
    exact Pc.bd_mono a2 (by grind)
theorem at2_acc (sb sa : Bool) (rb ra : Nat) (hb : rb < top) (ha : ra < top) (p q ρ : Rat) (hρ : 0 < ρ) (hp : val (F.word false ra) = p * ρ) (hq : val (F.word false rb) = q * ρ) (hp1 : 0 ≤ p ∧ p ≤ 101 / 100) (hq1 : 0 ≤ q ∧ q ≤ 101 / 100)
    (ma : ra = 0 ∨ 1 / 10 ^ 101 ≤ val (F.word false ra) ∧ val (F.word false ra) ≤ 10 ^ 101) (mb : rb = 0 ∨ 1 / 10 ^ 101 ≤ val (F.word false rb) ∧ val (F.word false rb) ≤ 10 ^ 101) (hnz : ra ≠ 0 ∨ rb ≠ 0) :
    ∃ w a, C2 (F.word sb rb) (F.word sa ra) w ∧ Flt.fin w ∧ Br p q a (2 / 10 ^ 15) ∧ Quad (val w) a (val (F.word sa ra)) (val (F.word sb rb)) (p * ρ) (q * ρ) (7 / 10 ^ 15) := by
  have va := word_val sa ra ha
  have vb := word_val sb rb hb
  have hp4 := Pc.p4_bd
  have e0 : (0 : Rat) ≤ 7 / 10 ^ 15 := by decide +kernel
  have nearR : ∀ x : Rat, Near x x (7 / 10 ^ 15) := fun x => by unfold Near; constructor <;> grind
  have zz : ∀ s, val (F.word s 0) = 0 := fun s => (word_zero s).2
  by_cases h : rb = 0
  · subst h
    have q0 : q = 0 := by
      rw [zz] at hq
      rcases Rat.mul_eq_zero.1 hq.symm with k | k
      · exact k
      · grind
    have hB : Br p q 0 (2 / 10 ^ 15) := .inl ⟨0, Rat.le_refl, by decide +kernel, atan_zero.symm, by rw [q0]; unfold Pc.Bd; constructor <;> grind⟩
    cases sa
    · refine ⟨_, 0, fun w => at2_a sb false 0 ra w hb ha rfl rfl, (word_zero sb).1, hB, .inl ⟨?_, ?_, ?_, ?_⟩⟩
      · rw [zz]; exact Rat.le_refl
      · rw [zz]; exact nearR 0
      · exact hp
      · rw [zz, q0]; grind
    · have hr : ra ≠ 0 := by rcases hnz with k | k <;> omega
      have fw := word_fin sb 4614256656552045848 (by decide)
      have wv := word_val sb 4614256656552045848 (by decide)
      have w0 : val (F.word false 4614256656552045848) = 4 * p4 := vPI
      rw [w0] at wv
      refine ⟨_, 0, fun w => at2_b sb true 0 ra w hb ha rfl rfl hr, fw, hB, ?_⟩
      rw [wv, va, zz]
      simp only [if_true]
      cases sb
      · refine .inr (.inl ⟨?_, by rw [hp], by rw [q0]; grind⟩)
        simp; have := nearR (4 * p4); unfold Near at *; constructor <;> grind
      · refine .inr (.inr (.inl ⟨?_, by rw [hp], by rw [q0]; grind⟩))
        simp; have := nearR (-(4 * p4)); unfold Near at *; constructor <;> grind
  · by_cases hr : ra = 0
    · subst hr
      have p0 : p = 0 := by
        rw [zz] at hp
        rcases Rat.mul_eq_zero.1 hp.symm with k | k
        · exact k
        · grind
      have hB : Br p q (2 * p4) (2 / 10 ^ 15) := .inr (.inl ⟨0, Rat.le_refl, by decide +kernel, by rw [atan_zero]; grind, by rw [p0]; unfold Pc.Bd; constructor <;> grind⟩)
      have fw := word_fin sb 4609753056924675352 (by decide)
      have wv := word_val sb 4609753056924675352 (by decide)
      have w0 : val (F.word false 4609753056924675352) = 2 * p4 := vPI2
      rw [w0] at wv
      refine ⟨_, 2 * p4, fun w => at2_d sb sa rb 0 w hb ha h rfl, fw, hB, ?_⟩
      rw [wv, vb, zz]
      cases sb
      · simp only [Bool.false_eq_true, if_false]
        exact .inl ⟨by grind, nearR _, by rw [p0]; grind, hq⟩
      · simp only [if_true]
        have : (1 : Rat) / 10 ^ 260 ≤ 1 := by decide +kernel
        exact .inr (.inr (.inr ⟨by grind, nearR _, by rw [p0]; grind, by rw [hq]⟩))
    · have ma' : 1 / 10 ^ 101 ≤ val (F.word false ra) ∧ val (F.word false ra) ≤ 10 ^ 101 := by rcases ma with k | k; exact absurd k hr; exact k
      have mb' : 1 / 10 ^ 101 ≤ val (F.word false rb) ∧ val (F.word false rb) ≤ 10 ^ 101 := by rcases mb with k | k; exact absurd k h; exact k
      obtain ⟨rr, hrt, hr0, d1, x1, x2, hx⟩ := quo_ex sb sa rb ra hb ha p q ρ hρ hp hq hp1 hq1 ma' mb'
      obtain ⟨t, a, X, ft, hB, nt, t0⟩ := sat_acc (F.word false rr) (word_fin false rr hrt) p q hp1 hq1 x1 x2 hx
      have lt := sat_lt X
      obtain ⟨fn, vn⟩ := negB_val lt ft
      have ra' := hB.range
      have l260 : (0 : Rat) < 1 / 10 ^ 260 := by decide +kernel
      have lo1 : (1 : Rat) / 10 ^ 290 ≤ 5 := by decide +kernel
      have hi1 : (5 : Rat) ≤ 10 ^ 290 := by decide +kernel
      have hat : ∀ s, at0 s rr t = if s = true then negB t else t := fun s => by unfold at0; rw [if_neg hr0]
      cases sa
      · refine ⟨at0 (sb ^^ false) rr t, a, fun w => at2_e sb false rb ra w hb ha h hr (sb ^^ false) rr t (by omega) d1 (fun _ => X) rfl, ?_, hB, ?_⟩
        · rw [hat]; cases sb <;> simp <;> assumption
        · rw [hat, vb, va]
          cases sb
          · simp only [Bool.xor_false, Bool.false_eq_true, if_false]
            exact .inl ⟨by grind, near_mono nt (by decide +kernel), hp, hq⟩
          · simp only [Bool.xor_false, Bool.false_eq_true, if_false, if_true, vn]
            exact .inr (.inr (.inr ⟨by grind, by unfold Near at *; constructor <;> grind, hp, by rw [hq]⟩))
      · cases sb
        · -- b positive: s = true
          have hl : leB (at0 true rr t) 0 = true := by rw [hat]; exact (leB_iff fn zero_fin.1).2 (by rw [vn, zero_fin.2]; grind)
          have hA : Abs (val (negB t) + val 4614256656552045848) 5 := by rw [vn, vPI]; unfold Near at nt; unfold Abs; constructor <;> grind
          obtain ⟨z, Z⟩ := add_b fn cPI.1 (A := 5) (B := 5) (by rw [vn]; unfold Near at nt; unfold Abs; constructor <;> grind) (by rw [vPI]; unfold Abs; constructor <;> grind) (by grind)
          obtain ⟨fz, nz⟩ := add_rel fn cPI.1 5 hA lo1 hi1 Z.bits
          rw [vn, vPI] at nz
          refine ⟨z, a, fun w => at2_f false true rb ra w hb ha h hr true rr t (by omega) d1 (fun _ => X) rfl z hl (by rw [hat]; exact Z.bits), fz, hB, .inr (.inl ⟨?_, ?_, ?_⟩)⟩
          · unfold Near at *; constructor <;> grind
          · rw [va]; simp only [if_true]; rw [hp]
          · exact hq
        · have hl : leB (at0 false rr t) 0 = false := by
            rw [hat]
            cases e : leB t 0
            · exact e
            · have := (leB_iff ft zero_fin.1).1 e
              rw [zero_fin.2] at this
              exfalso; grind
          have hA : Abs (val t - val 4614256656552045848) 5 := by rw [vPI]; unfold Near at nt; unfold Abs; constructor <;> grind
          obtain ⟨z, Z⟩ := sub_b ft cPI.1 (A := 5) (B := 5) (by unfold Near at nt; unfold Abs; constructor <;> grind) (by rw [vPI]; unfold Abs; constructor <;> grind) (by grind)
          obtain ⟨fz, nz⟩ := sub_rel ft cPI.1 5 hA lo1 hi1 Z.bits
          rw [vPI] at nz
          refine ⟨z, a, fun w => at2_g true true rb ra w hb ha h hr false rr t (by omega) d1 (fun _ => X) rfl z hl (by rw [hat]; exact Z.bits), fz, hB, .inr (.inr (.inl ⟨?_, ?_, ?_⟩))⟩
          · unfold Near at *; constructor <;> grind
          · rw [va]; simp only [if_true]; rw [hp]
          · rw [vb]; simp only [if_true]; rw [hq]
end Go.Proofs.YtkbgkogfjfojgaaDoor

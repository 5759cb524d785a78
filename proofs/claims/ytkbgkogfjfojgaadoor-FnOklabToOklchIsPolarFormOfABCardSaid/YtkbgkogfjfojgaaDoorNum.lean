/- The law in numbers: chroma, hue and back. -/
import Derived.Test.YtkbgkogfjfojgaaDoorLcl
import Derived.Test.YtkbgkogfjfojgaaDoorSqn
set_option linter.unusedSimpArgs false
set_option linter.unusedVariables false
set_option maxRecDepth 100000
namespace Go.Proofs.YtkbgkogfjfojgaaDoor
open Go.RowKit
open Ieee Go
open Flt
open Pc (atanP p4 Br cosK sinK)
theorem c12 : Flt.fin 4427486594234968593 ∧ val 4427486594234968593 = 4951760157141521 / 4951760157141521099596496896 := const_val (by decide +kernel) (by decide +kernel)
theorem lo290 : (1 : Rat) / 10 ^ 290 ≤ 1 / 10 ^ 260 := by decide +kernel
theorem sq_rel {x : Nat} (fx : Flt.fin x) (v : Rat) (hv : val x = v ∨ val x = -v) (h : v = 0 ∨ (1 / 10 ^ 101 ≤ v ∧ v ≤ 10 ^ 101)) : ∃ r, floatBits .mul .f64 x x = some r ∧ Flt.fin r ∧ Near (val r) (v * v) (v * v * (12 / 10 ^ 17)) ∧ 0 ≤ val r := by
  have e : val x * val x = v * v := by rcases hv with h | h <;> rw [h] <;> grind
  have h0 := Pc.sq_nn v
  have b1 : v * v ≤ 10 ^ 202 := by
    rcases h with h | h
    · rw [h]; decide +kernel
    · have k1 := Rat.mul_le_mul_of_nonneg_left h.2 (show 0 ≤ v by have := (show (0 : Rat) < 1 / 10 ^ 101 by decide +kernel); grind)
      have k2 := Rat.mul_le_mul_of_nonneg_right h.2 (show (0 : Rat) ≤ 10 ^ 101 by decide +kernel)
      have : (10 : Rat) ^ 101 * 10 ^ 101 = 10 ^ 202 := by decide +kernel
      grind
  have hb := big300 (show v * v ≤ 10 ^ 290 by have := (show (10 : Rat) ^ 202 ≤ 10 ^ 290 by decide +kernel); grind)
  have hA : Abs (val x * val x) (v * v) := by rw [e]; unfold Abs; constructor <;> grind
  obtain ⟨r, h1, h2, h3⟩ := mul_near x x fx fx (v * v) hA.1 hA.2 (by have := t1022_lt; grind)
  obtain ⟨r', e2, -, m⟩ := mul_mono x x fx fx (abs_le hA (Rat.le_of_lt hb))
  have := inj_some h1 e2; subst this
  have z := m 0 zero_fin.1
  rw [zero_fin.2, e] at z
  have z1 := z.2 h0
  refine ⟨r, h1, h2, ?_, z1⟩
  rcases h with h | h
  · subst h
    have z2 := z.1 (by grind)
    have : val r = 0 := by grind
    rw [this]; unfold Near; constructor <;> grind
  · have l1 : 1 / 10 ^ 290 ≤ v * v := by
      have k1 := Rat.mul_le_mul_of_nonneg_left h.1 (show 0 ≤ v by have := (show (0 : Rat) < 1 / 10 ^ 101 by decide +kernel); grind)
      have k2 := Rat.mul_le_mul_of_nonneg_right h.1 (show (0 : Rat) ≤ 1 / 10 ^ 101 by decide +kernel)
      have : (1 : Rat) / 10 ^ 290 ≤ 1 / 10 ^ 101 * (1 / 10 ^ 101) := by decide +kernel
      grind
    have := (mul_rel fx fx (v * v) hA l1 (by have := (show (10 : Rat) ^ 202 ≤ 10 ^ 290 by decide +kernel); grind) h1).2
    rwa [e] at this
/-- the chroma -/
structure Chr (a b c : Nat) (α β ρ p q : Rat) : Prop where
  fl : ∃ a2 b2 s, floatBits .mul .f64 a a = some a2 ∧ floatBits .mul .f64 b b = some b2 ∧ floatBits .add .f64 a2 b2 = some s ∧ F.sqrt s = some c
  fc : Flt.fin c
  vc : val c = ρ
  hp : α = p * ρ
  hq : β = q * ρ
theorem chr_ex {a b : Nat} (fa : Flt.fin a) (fb : Flt.fin b) (α β : Rat) (ha : val a = α ∨ val a = -α) (hb : val b = β ∨ val b = -β) (h1 : α = 0 ∨ (1 / 10 ^ 101 ≤ α ∧ α ≤ 10 ^ 101)) (h2 : β = 0 ∨ (1 / 10 ^ 101 ≤ β ∧ β ≤ 10 ^ 101)) (hnz : α ≠ 0 ∨ β ≠ 0) :
    ∃ c ρ p q, Chr a b c α β ρ p q ∧ 1 / 10 ^ 120 ≤ ρ ∧ ρ ≤ 10 ^ 120 ∧ (0 ≤ p ∧ p ≤ 101 / 100) ∧ (0 ≤ q ∧ q ≤ 101 / 100) ∧ Pc.Bd (p * p + q * q - 1) (2 / 10 ^ 15) := by
  obtain ⟨a2, e1, f1, n1, p1⟩ := sq_rel fa α ha h1
  obtain ⟨b2, e2, f2, n2, p2⟩ := sq_rel fb β hb h2
  have l100 : (0 : Rat) < 1 / 10 ^ 101 := by decide +kernel
  have hα : 0 ≤ α := by rcases h1 with h | h <;> grind
  have hβ : 0 ≤ β := by rcases h2 with h | h <;> grind
  have sqb : ∀ x : Rat, (x = 0 ∨ (1 / 10 ^ 101 ≤ x ∧ x ≤ 10 ^ 101)) → x * x ≤ 10 ^ 202 ∧ (x ≠ 0 → 1 / 10 ^ 202 ≤ x * x) := fun x h => by
    rcases h with h | h
    · subst h; exact ⟨by decide +kernel, fun c => absurd rfl c⟩
    · have x0 : 0 ≤ x := by grind
      have k1 := Rat.mul_le_mul_of_nonneg_left h.2 x0
      have k2 := Rat.mul_le_mul_of_nonneg_right h.2 (show (0 : Rat) ≤ 10 ^ 101 by decide +kernel)
      have k3 := Rat.mul_le_mul_of_nonneg_left h.1 x0
      have k4 := Rat.mul_le_mul_of_nonneg_right h.1 (show (0 : Rat) ≤ 1 / 10 ^ 101 by decide +kernel)
      have q1 : (10 : Rat) ^ 101 * 10 ^ 101 = 10 ^ 202 := by decide +kernel
      have q2 : (1 : Rat) / 10 ^ 101 * (1 / 10 ^ 101) = 1 / 10 ^ 202 := by decide +kernel
      exact ⟨by grind, fun _ => by grind⟩
  have s1 := sqb α h1
  have s2 := sqb β h2
  have A0 := Pc.sq_nn α
  have B0 := Pc.sq_nn β
  have hS : 1 / 10 ^ 202 ≤ α * α + β * β := by rcases hnz with h | h; have := s1.2 h; grind; have := s2.2 h; grind
  have hS2 : α * α + β * β ≤ 2 * 10 ^ 202 := by grind
  generalize hSS : α * α + β * β = S at *
  have lo : (1 : Rat) / 10 ^ 290 ≤ 1 / 10 ^ 202 := by decide +kernel
  have hi : (2 : Rat) * 10 ^ 202 * 2 ≤ 10 ^ 290 := by decide +kernel
  have hA : Abs (val a2 + val b2) (S * (101 / 100)) := by unfold Near at n1 n2; unfold Abs; constructor <;> grind
  obtain ⟨s, e3, f3, -⟩ := add_near a2 b2 f1 f2 (S * (101 / 100)) hA.1 hA.2 (by have := big300 (show S * (101 / 100) ≤ 10 ^ 290 by grind); have := t1022_lt; grind)
  have n3 := (add_rel f1 f2 (S * (101 / 100)) hA (by grind) (by grind) e3).2
  have n4 : Near (val s) S (S * (25 / 10 ^ 17)) := by unfold Near at *; constructor <;> grind
  obtain ⟨c, e4, f4, c0, n5⟩ := sqrt_near s f3 (by have := (show (1 : Rat) / 10 ^ 250 * 2 ≤ 1 / 10 ^ 202 by decide +kernel); unfold Near at n4; grind) (by have := (show (2 : Rat) * 10 ^ 202 * 2 ≤ 10 ^ 250 by decide +kernel); unfold Near at n4; grind)
  generalize hρ : val c = ρ at *
  have n6 : Abs (ρ * ρ - S) (S * (8 / 10 ^ 16)) := by unfold Near Abs at *; constructor <;> grind
  have ep : α / ρ * ρ = α := Rat.div_mul_cancel (by grind)
  have eq : β / ρ * ρ = β := Rat.div_mul_cancel (by grind)
  generalize α / ρ = p at *
  generalize β / ρ = q at *
  have p0 : 0 ≤ p := by
    refine Rat.not_lt.1 (fun h => ?_)
    have := Rat.mul_pos (show 0 < -p by grind) c0
    grind
  have q0 : 0 ≤ q := by
    refine Rat.not_lt.1 (fun h => ?_)
    have := Rat.mul_pos (show 0 < -q by grind) c0
    grind
  have hT : (p * p + q * q) * (ρ * ρ) = S := by rw [← hSS, ← ep, ← eq]; grind
  have R0 := Rat.mul_pos c0 c0
  have hb0 : Pc.Bd (p * p + q * q - 1) (2 / 10 ^ 15) := by
    generalize p * p + q * q = T at *
    generalize ρ * ρ = R at *
    unfold Abs at n6
    have hT1 : T ≤ 2 := by
      refine Rat.not_lt.1 (fun h => ?_)
      have := Rat.mul_pos (show 0 < T - 2 by grind) R0
      grind
    have hT0 : 0 ≤ T := by
      refine Rat.not_lt.1 (fun h => ?_)
      have := Rat.mul_pos (show 0 < -T by grind) R0
      have : (0 : Rat) < 1 / 10 ^ 202 := by decide +kernel
      grind
    have hTR := Rat.mul_nonneg (show 0 ≤ 2 - T by grind) (Rat.le_of_lt R0)
    constructor
    · refine Rat.not_lt.1 (fun h => ?_)
      have := Rat.mul_pos (show 0 < -(2 / 10 ^ 15) - (T - 1) by grind) R0
      grind
    · refine Rat.not_lt.1 (fun h => ?_)
      have := Rat.mul_pos (show 0 < (T - 1) - 2 / 10 ^ 15 by grind) R0
      grind
  have pb := Pc.len_bd (by decide +kernel) hb0
  have qb := Pc.len_bd (a := q) (b := p) (e := 2 / 10 ^ 15) (by decide +kernel) (by rw [show q * q + p * p - 1 = p * p + q * q - 1 by grind]; exact hb0)
  refine ⟨c, ρ, p, q, ⟨⟨a2, b2, s, e1, e2, e3, e4⟩, f4, hρ, ep.symm, eq.symm⟩, ?_, ?_, ⟨p0, pb.2⟩, ⟨q0, qb.2⟩, hb0⟩
  · refine Rat.not_lt.1 (fun h => ?_)
    have k1 := Rat.mul_le_mul_of_nonneg_left (Rat.le_of_lt h) (show (0 : Rat) ≤ 1 / 10 ^ 120 by decide +kernel)
    have k2 := Rat.mul_le_mul_of_nonneg_right (Rat.le_of_lt h) (Rat.le_of_lt c0)
    have : (1 : Rat) / 10 ^ 120 * (1 / 10 ^ 120) * 4 ≤ 1 / 10 ^ 202 := by decide +kernel
    unfold Abs at n6
    grind
  · refine Rat.not_lt.1 (fun h => ?_)
    have k1 := Rat.mul_le_mul_of_nonneg_left (Rat.le_of_lt h) (show (0 : Rat) ≤ 10 ^ 120 by decide +kernel)
    have k2 := Rat.mul_le_mul_of_nonneg_right (Rat.le_of_lt h) (Rat.le_of_lt c0)
    have : (2 : Rat) * 10 ^ 202 * 4 ≤ 10 ^ 120 * 10 ^ 120 := by decide +kernel
    unfold Abs at n6
    grind
/-- one coordinate's test -/
structure Cmp (c C a : Nat) (x tol : Nat) : Prop where
  cmp : ∃ d, floatBits .mul .f64 c C = some x ∧ floatBits .sub .f64 x a = some d ∧ leB (absB d) tol = true
theorem tol_ex {C : Nat} {ρ : Rat} (fC : Flt.fin C) (vC : val C = ρ) (h1 : 1 / 10 ^ 120 ≤ ρ) (h2 : ρ ≤ 10 ^ 120) : ∃ tol, floatBits .mul .f64 4427486594234968593 C = some tol ∧ Flt.fin tol ∧ ρ * (99 / 10 ^ 14) ≤ val tol := by
  have l0 : (0 : Rat) < 1 / 10 ^ 120 := by decide +kernel
  have lo : (1 : Rat) / 10 ^ 290 ≤ 1 / 10 ^ 120 := by decide +kernel
  have hi : (10 : Rat) ^ 120 ≤ 10 ^ 290 := by decide +kernel
  have hA : Abs (val 4427486594234968593 * val C) ρ := by rw [c12.2, vC]; unfold Abs; constructor <;> grind
  obtain ⟨r, e, f, -⟩ := mul_near 4427486594234968593 C c12.1 fC ρ hA.1 hA.2 (by have := big300 (show ρ ≤ 10 ^ 290 by grind); have := t1022_lt; grind)
  have n := (mul_rel c12.1 fC ρ hA (by grind) (by grind) e).2
  rw [c12.2, vC] at n
  exact ⟨r, e, f, by unfold Near at n; grind⟩
theorem cmp_ex {c C a tol : Nat} {ρ A : Rat} (fc : Flt.fin c) (fC : Flt.fin C) (fa : Flt.fin a) (wa : a < 2 ^ 64) (vC : val C = ρ) (h1 : 1 / 10 ^ 120 ≤ ρ) (h2 : ρ ≤ 10 ^ 120) (ft : Flt.fin tol) (ht : ρ * (99 / 10 ^ 14) ≤ val tol) (hA : Abs A (101 / 100)) (va : val a = A * ρ) (nc : Near (val c) A (6 / 10 ^ 13)) : ∃ x, Cmp c C a x tol := by
  have l0 : (0 : Rat) < 1 / 10 ^ 120 := by decide +kernel
  have lo : (1 : Rat) / 10 ^ 290 ≤ 1 / 10 ^ 120 := by decide +kernel
  have hi : 2 * (10 : Rat) ^ 120 ≤ 10 ^ 290 := by decide +kernel
  have r0 : 0 < ρ := by grind
  have k1 : Abs (val c - A) (6 / 10 ^ 13) := by unfold Near at nc; unfold Abs; constructor <;> grind
  have k2 : Abs ρ ρ := by unfold Abs; constructor <;> grind
  have m1 := abs_mul k1 k2
  have m2 := abs_mul hA k2
  have e1 : (val c - A) * ρ = val c * ρ - A * ρ := by grind
  rw [e1] at m1
  have hM : Abs (val c * val C) (ρ * 2) := by rw [vC]; unfold Abs at *; constructor <;> grind
  have hbig := big300 (show ρ * 2 ≤ 10 ^ 290 by grind)
  obtain ⟨x, ex, fx, -⟩ := mul_near c C fc fC (ρ * 2) hM.1 hM.2 (by have := t1022_lt; grind)
  have nx := (mul_rel fc fC (ρ * 2) hM (by grind) (by grind) ex).2
  rw [vC] at nx
  have hD : Abs (val x - val a) ρ := by rw [va]; unfold Abs Near at *; constructor <;> grind
  obtain ⟨d, ed, fd, -⟩ := sub_near x a fx fa ρ hD.1 hD.2 (by have := t1022_lt; grind)
  have nd := (sub_rel fx fa ρ hD (by grind) (by grind) ed).2
  rw [va] at nd
  obtain ⟨g1, g2, g3, g4⟩ := absB_val (bits_lt ed) fd
  refine ⟨x, ⟨d, ex, ed, (leB_iff g1 ft).2 ?_⟩⟩
  unfold Near Abs at *
  rcases g4 with g | g <;> rw [g] <;> grind
end Go.Proofs.YtkbgkogfjfojgaaDoor

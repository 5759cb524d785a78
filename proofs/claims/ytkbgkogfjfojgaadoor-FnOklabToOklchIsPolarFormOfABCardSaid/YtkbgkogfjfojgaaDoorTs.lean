/- Floats tracked at a scale: val x is v times S, v lies in an interval and near an exact value. -/
import Derived.Test.YtkbgkogfjfojgaaDoorTr
set_option linter.unusedSimpArgs false
set_option linter.unusedVariables false
namespace Go.Proofs.YtkbgkogfjfojgaaDoor.Flt
open Ieee Go
structure Ts (x : Nat) (S l u E e : Rat) : Prop where
  fin : fin x
  ex : ∃ v, val x = v * S ∧ l ≤ v ∧ v ≤ u ∧ Near v E e
structure Sc (S : Rat) : Prop where
  lo : 1 / 10 ^ 250 ≤ S
  hi : S ≤ 10 ^ 250
theorem Sc.pos {S : Rat} (h : Sc S) : 0 < S := by
  have h1 : (0 : Rat) < 1 / 10 ^ 250 := by decide +kernel
  have := h.lo; grind
theorem Sc.one : Sc 1 := ⟨by decide +kernel, by decide +kernel⟩
theorem Sc.mk' {S : Rat} (A : Rat) (h1 : 1 / A ≤ S) (h2 : S ≤ A) (hA : 1 / 10 ^ 250 ≤ 1 / A) (hB : A ≤ 10 ^ 250) : Sc S := ⟨Rat.le_trans hA h1, Rat.le_trans h2 hB⟩
theorem e290 : 3 * eta ≤ 1 / 10 ^ 40 * (1 / 10 ^ 250) := by
  have h1 := eta310
  have h2 : (1 : Rat) / 10 ^ 310 ≤ 1 / 10 ^ 40 * (1 / 10 ^ 250) := by decide +kernel
  grind
theorem scale_near {S R v B k : Rat} (hS : Sc S) (hB : 0 ≤ B) (hk : k ≤ 1 / 10 ^ 15) (h : Near R (v * S) (k * (B * S) + eta)) : ∃ v', R = v' * S ∧ Near v' v (B / 10 ^ 15 + 1 / 10 ^ 40) := by
  have hp := hS.pos
  have e : R / S * S = R := Rat.div_mul_cancel (by grind)
  refine ⟨R / S, e.symm, ?_⟩
  generalize R / S = q at *
  have h2 : eta ≤ 1 / 10 ^ 40 * S := by
    have h3 := e290
    have h4 := Rat.mul_le_mul_of_nonneg_left hS.lo (show (0 : Rat) ≤ 1 / 10 ^ 40 by decide +kernel)
    have := eta_pos
    grind
  have h5 := Rat.mul_le_mul_of_nonneg_right hk (Rat.mul_nonneg hB (Rat.le_of_lt hp))
  have h6 : Near (q * S) (v * S) ((B / 10 ^ 15 + 1 / 10 ^ 40) * S) := by
    rw [e]; exact near_mono h (by grind)
  have key : ∀ p r : Rat, p * S ≤ r * S → p ≤ r := fun p r h => by
    rcases Rat.le_total (a := p) (b := r) with c | c
    · exact c
    · by_cases c' : p = r
      · grind
      · have := Rat.mul_pos (show 0 < p - r by grind) hp; grind
  unfold Near at *
  exact ⟨key _ _ (by grind), key _ _ (by grind)⟩
theorem Ts.mk' {r : Nat} {S R v E l u a b B e ee : Rat} (f : Flt.fin r) (hn : ∃ v', val r = v' * S ∧ Near v' v (B / 10 ^ 15 + 1 / 10 ^ 40)) (h1 : a ≤ v) (h2 : v ≤ b) (hl : l + B / 10 ^ 15 + 1 / 10 ^ 40 ≤ a) (hu : b + B / 10 ^ 15 + 1 / 10 ^ 40 ≤ u) (hE : Near v E ee) (he : ee + B / 10 ^ 15 + 1 / 10 ^ 40 ≤ e) : Ts r S l u E e := by
  obtain ⟨v', q, hn⟩ := hn
  exact ⟨f, v', q, by unfold Near at hn; grind, by unfold Near at hn; grind, near_mono (near_trans hn hE) (by grind)⟩
structure KA (a b l u ex ey B e : Rat) : Prop where
  b1 : -B ≤ a
  b2 : b ≤ B
  b3 : B ≤ 10 ^ 40
  l : l + B / 10 ^ 15 + 1 / 10 ^ 40 ≤ a
  u : b + B / 10 ^ 15 + 1 / 10 ^ 40 ≤ u
  e : ex + ey + B / 10 ^ 15 + 1 / 10 ^ 40 ≤ e
theorem big_ok {B S : Rat} (hS : Sc S) (h0 : 0 ≤ B) (h : B ≤ 10 ^ 40) : B * S < two 1022 := by
  have h1 := Rat.mul_le_mul_of_nonneg_left hS.hi h0
  have h2 := Rat.mul_le_mul_of_nonneg_right h (show (0 : Rat) ≤ 10 ^ 250 by decide +kernel)
  have h3 : (10 : Rat) ^ 40 * 10 ^ 250 < 10 ^ 300 := by decide +kernel
  have := t300
  grind
theorem abs_sc {v B S : Rat} (hS : 0 < S) (h : Abs v B) : -(B * S) ≤ v * S ∧ v * S ≤ B * S := by
  have h1 := Rat.mul_le_mul_of_nonneg_right h.1 (Rat.le_of_lt hS)
  have h2 := Rat.mul_le_mul_of_nonneg_right h.2 (Rat.le_of_lt hS)
  exact ⟨by grind, h2⟩
theorem uu_le : uu ≤ 1 / 10 ^ 15 := uu_small
theorem add_s {x y : Nat} {S a b c d Ex Ey ex ey : Rat} (l u B e : Rat) (hS : Sc S) (hx : Ts x S a b Ex ex) (hy : Ts y S c d Ey ey) (h : KA (a + c) (b + d) l u ex ey B e) : ∃ r, floatBits .add .f64 x y = some r ∧ Ts r S l u (Ex + Ey) e := by
  obtain ⟨fx, v, qv, v1, v2, v3⟩ := hx
  obtain ⟨fy, z, qz, z1, z2, z3⟩ := hy
  obtain ⟨o1, o2, o3, o4, o5, o6⟩ := h
  have hv : val x + val y = (v + z) * S := by rw [qv, qz]; grind
  have hA : Abs (v + z) B := ⟨by grind, by grind⟩
  have h0 := abs_nonneg hA
  have hb := abs_sc hS.pos hA
  obtain ⟨r, k1, k2, k3⟩ := add_near x y fx fy (B * S) (by rw [hv]; exact hb.1) (by rw [hv]; exact hb.2) (by have := big_ok hS h0 o3; have := t1022_lt; grind)
  rw [hv] at k3
  refine ⟨r, k1, Ts.mk' (R := 0) (ee := ex + ey) (v := v + z) (a := a + c) (b := b + d) k2 (scale_near hS h0 uu_le k3) (by grind) (by grind) o4 o5 ?_ o6⟩
  unfold Near at *; constructor <;> grind
theorem sub_s {x y : Nat} {S a b c d Ex Ey ex ey : Rat} (l u B e : Rat) (hS : Sc S) (hx : Ts x S a b Ex ex) (hy : Ts y S c d Ey ey) (h : KA (a - d) (b - c) l u ex ey B e) : ∃ r, floatBits .sub .f64 x y = some r ∧ Ts r S l u (Ex - Ey) e := by
  obtain ⟨fx, v, qv, v1, v2, v3⟩ := hx
  obtain ⟨fy, z, qz, z1, z2, z3⟩ := hy
  obtain ⟨o1, o2, o3, o4, o5, o6⟩ := h
  have hv : val x - val y = (v - z) * S := by rw [qv, qz]; grind
  have hA : Abs (v - z) B := ⟨by grind, by grind⟩
  have h0 := abs_nonneg hA
  have hb := abs_sc hS.pos hA
  obtain ⟨r, k1, k2, k3⟩ := sub_near x y fx fy (B * S) (by rw [hv]; exact hb.1) (by rw [hv]; exact hb.2) (by have := big_ok hS h0 o3; have := t1022_lt; grind)
  rw [hv] at k3
  refine ⟨r, k1, Ts.mk' (R := 0) (ee := ex + ey) (v := v - z) (a := a - d) (b := b - c) k2 (scale_near hS h0 uu_le k3) (by grind) (by grind) o4 o5 ?_ o6⟩
  unfold Near at *; constructor <;> grind
structure KM (a b c d l u ex ey A C B e : Rat) : Prop where
  a1 : -A ≤ a
  a2 : b ≤ A
  c1 : -C ≤ c
  c2 : d ≤ C
  b3 : B ≤ 10 ^ 40
  b1 : A * C ≤ B
  l1 : l + B / 10 ^ 15 + 1 / 10 ^ 40 ≤ a * c
  l2 : l + B / 10 ^ 15 + 1 / 10 ^ 40 ≤ a * d
  l3 : l + B / 10 ^ 15 + 1 / 10 ^ 40 ≤ b * c
  l4 : l + B / 10 ^ 15 + 1 / 10 ^ 40 ≤ b * d
  u1 : a * c + B / 10 ^ 15 + 1 / 10 ^ 40 ≤ u
  u2 : a * d + B / 10 ^ 15 + 1 / 10 ^ 40 ≤ u
  u3 : b * c + B / 10 ^ 15 + 1 / 10 ^ 40 ≤ u
  u4 : b * d + B / 10 ^ 15 + 1 / 10 ^ 40 ≤ u
  e : A * ey + (C + ey) * ex + B / 10 ^ 15 + 1 / 10 ^ 40 ≤ e
theorem mul_s {x y : Nat} {S S' a b c d Ex Ey ex ey : Rat} (l u A C B e : Rat) (hS : Sc (S * S')) (hx : Ts x S a b Ex ex) (hy : Ts y S' c d Ey ey) (h : KM a b c d l u ex ey A C B e) : ∃ r, floatBits .mul .f64 x y = some r ∧ Ts r (S * S') l u (Ex * Ey) e := by
  obtain ⟨fx, v, qv, v1, v2, v3⟩ := hx
  obtain ⟨fy, z, qz, z1, z2, z3⟩ := hy
  obtain ⟨a1, a2, c1, c2, b3, b1, l1, l2, l3, l4, u1, u2, u3, u4, he⟩ := h
  have hA := abs_of v1 v2 a1 a2
  have hC := abs_of z1 z2 c1 c2
  have hB := abs_le (abs_mul hA hC) b1
  have h0 := abs_nonneg hB
  have hv : val x * val y = (v * z) * (S * S') := by rw [qv, qz]; grind
  have hb := abs_sc hS.pos hB
  have h1 := le_mul4 v1 v2 z1 z2 l1 l2 l3 l4
  have h2 := mul_le4 (U := u - B / 10 ^ 15 - 1 / 10 ^ 40) v1 v2 z1 z2 (by grind) (by grind) (by grind) (by grind)
  obtain ⟨r, k1, k2, k3⟩ := mul_near x y fx fy (B * (S * S')) (by rw [hv]; exact hb.1) (by rw [hv]; exact hb.2) (by have := big_ok hS h0 b3; have := t1022_lt; grind)
  rw [hv] at k3
  exact ⟨r, k1, Ts.mk' (R := 0) (ee := A * ey + (C + ey) * ex) k2 (scale_near hS h0 uu_le k3) h1 h2 (by grind) (by grind) (near_mul v3 z3 hA hC) he⟩
structure KD (a b c d l u ex ey B e : Rat) : Prop where
  c0 : 0 < c - ey
  b3 : B ≤ 10 ^ 40
  b1 : -(B * c) ≤ a
  b1' : -(B * d) ≤ a
  b2 : b ≤ B * c
  b2' : b ≤ B * d
  l1 : (l + B / 10 ^ 15 + 1 / 10 ^ 40) * c ≤ a
  l2 : (l + B / 10 ^ 15 + 1 / 10 ^ 40) * d ≤ a
  u1 : b ≤ (u - B / 10 ^ 15 - 1 / 10 ^ 40) * c
  u2 : b ≤ (u - B / 10 ^ 15 - 1 / 10 ^ 40) * d
  y0 : 0 ≤ ey
  e : (ex + B * ey) / (c - ey) + B / 10 ^ 15 + 1 / 10 ^ 40 ≤ e
theorem div_s {x y : Nat} {S S' a b c d Ex Ey ex ey : Rat} (l u B e : Rat) (hS : Sc (S / S')) (hS' : 0 < S') (hx : Ts x S a b Ex ex) (hy : Ts y S' c d Ey ey) (h : KD a b c d l u ex ey B e) : ∃ r, floatBits .quo .f64 x y = some r ∧ Ts r (S / S') l u (Ex / Ey) e := by
  obtain ⟨fx, v, qv, v1, v2, v3⟩ := hx
  obtain ⟨fy, z, qz, z1, z2, z3⟩ := hy
  obtain ⟨c0, b3, b1, b1', b2, b2', l1, l2, u1, u2, y0, he⟩ := h
  have hz0 : 0 < z := by grind
  have hB1 : -B ≤ v / z := le_div hz0 (by have := lin_le (q := B) (p := -a) z1 z2 (by grind) (by grind); grind)
  have hB2 : v / z ≤ B := div_le hz0 (by have := lin_le (q := B) (p := b) z1 z2 b2 b2'; grind)
  have hB : Abs (v / z) B := ⟨hB1, hB2⟩
  have h0 := abs_nonneg hB
  have h1 : l + B / 10 ^ 15 + 1 / 10 ^ 40 ≤ v / z := le_div hz0 (by have := lin_le (q := -(l + B / 10 ^ 15 + 1 / 10 ^ 40)) (p := -a) z1 z2 (by grind) (by grind); grind)
  have h2 : v / z ≤ u - B / 10 ^ 15 - 1 / 10 ^ 40 := div_le hz0 (by have := lin_le (q := (u - B / 10 ^ 15 - 1 / 10 ^ 40)) (p := b) z1 z2 u1 u2; grind)
  have hy0 : 0 < val y := by rw [qz]; exact Rat.mul_pos hz0 hS'
  have hv : val x / val y = (v / z) * (S / S') := by
    have e1 : v / z * z = v := Rat.div_mul_cancel (by grind)
    have e2 : S / S' * S' = S := Rat.div_mul_cancel (by grind)
    have e3 : val x / val y * val y = val x := Rat.div_mul_cancel (by grind)
    have e4 : (v / z) * (S / S') * val y = val x := by rw [qv, qz]; grind
    have e5 : (val x / val y - (v / z) * (S / S')) * val y = 0 := by grind
    rcases Rat.mul_eq_zero.1 e5 with k | k
    · grind
    · grind
  have hb := abs_sc hS.pos hB
  obtain ⟨r, k1, k2, k3⟩ := div_near x y fx fy (by grind) (B * (S / S')) (by rw [hv]; exact hb.1) (by rw [hv]; exact hb.2) (by have := big_ok hS h0 b3; grind)
  rw [hv] at k3
  exact ⟨r, k1, Ts.mk' (R := 0) (ee := (ex + B * ey) / (c - ey)) k2 (scale_near hS h0 uu3_small k3) h1 h2 (by grind) (by grind) (near_div v3 z3 z1 c0 hB) he⟩
theorem Ts.const {x : Nat} {v : Rat} (h : Flt.fin x ∧ val x = v) : Ts x 1 v v v 0 := ⟨h.1, v, by rw [h.2]; grind, Rat.le_refl, Rat.le_refl, by unfold Near; constructor <;> grind⟩
theorem Ts.self {x : Nat} {S : Rat} (f : Flt.fin x) (h : val x = S) : Ts x S 1 1 1 0 := ⟨f, 1, by rw [h]; grind, Rat.le_refl, Rat.le_refl, by unfold Near; constructor <;> grind⟩
theorem Ts.own {x : Nat} {l u : Rat} (f : Flt.fin x) (h1 : l ≤ val x) (h2 : val x ≤ u) : Ts x 1 l u (val x) 0 := ⟨f, val x, by grind, h1, h2, by unfold Near; constructor <;> grind⟩
theorem Ts.sc {x : Nat} {S S' l u E e : Rat} (h : Ts x S l u E e) (hS : S = S') : Ts x S' l u E e := by subst hS; exact h
theorem Ts.E {x : Nat} {S l u E e E' : Rat} (h : Ts x S l u E e) (hE : E = E') : Ts x S l u E' e := by subst hE; exact h
theorem Ts.shift {x : Nat} {S l u E e E' d e' : Rat} (h : Ts x S l u E e) (hE : Near E E' d) (he : e + d ≤ e') : Ts x S l u E' e' := by
  obtain ⟨f, v, q, h1, h2, h3⟩ := h
  exact ⟨f, v, q, h1, h2, near_mono (near_trans h3 hE) he⟩
theorem Ts.cut {x : Nat} {S l u E e l' u' : Rat} (h : Ts x S l u E e) (h1 : l' + e ≤ E) (h2 : E + e ≤ u') : Ts x S l' u' E e := by
  obtain ⟨f, v, q, _, _, h3⟩ := h
  exact ⟨f, v, q, by unfold Near at h3; grind, by unfold Near at h3; grind, h3⟩
/-- from scale U to scale 1 -/
theorem Ts.unit {x : Nat} {U l u E e : Rat} (h : Ts x U l u E e) (l' u' e' A : Rat) (hU : Abs U A) (hA : A * e ≤ e') (h1 : l' + e' ≤ E * U) (h2 : E * U + e' ≤ u') : Ts x 1 l' u' (E * U) e' := by
  obtain ⟨f, v, q, _, _, h3⟩ := h
  have : Near (v * U) (E * U) e' := by
    have k : Abs (v - E) e := by unfold Near at h3; unfold Abs; constructor <;> grind
    have := abs_le (abs_mul k hU) (by grind : e * A ≤ e')
    unfold Abs at this; unfold Near; constructor <;> grind
  exact ⟨f, v * U, by rw [q]; grind, by unfold Near at this; grind, by unfold Near at this; grind, this⟩
theorem Ts.near {x : Nat} {l u E e : Rat} (h : Ts x 1 l u E e) : Near (val x) E e := by
  obtain ⟨_, v, q, _, _, h3⟩ := h
  rw [q, Rat.mul_one]; exact h3
theorem Ts.lo {x : Nat} {l u E e : Rat} (h : Ts x 1 l u E e) : l ≤ val x := by
  obtain ⟨_, v, q, h1, _, h3⟩ := h
  rw [q, Rat.mul_one]; exact h1
theorem Ts.hi {x : Nat} {l u E e : Rat} (h : Ts x 1 l u E e) : val x ≤ u := by
  obtain ⟨_, v, q, _, h1, h3⟩ := h
  rw [q, Rat.mul_one]; exact h1
end Go.Proofs.YtkbgkogfjfojgaaDoor.Flt

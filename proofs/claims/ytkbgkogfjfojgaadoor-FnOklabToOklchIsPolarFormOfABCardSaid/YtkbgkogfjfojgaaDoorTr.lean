/- Floats tracked through a computation: an interval that holds the number, and an exact value that it is near to. -/
import Derived.Test.YtkbgkogfjfojgaaDoorBd
set_option linter.unusedSimpArgs false
set_option linter.unusedVariables false
namespace Go.Proofs.YtkbgkogfjfojgaaDoor.Flt
open Ieee Go
/-- the word x holds a number of [l, u], which is E up to an error of e -/
structure Tr (x : Nat) (l u E e : Rat) : Prop where
  fin : fin x
  lo : l ≤ val x
  hi : val x ≤ u
  near : Near (val x) E e
theorem mul_le4 {a b c d x y U : Rat} (ha : a ≤ x) (hb : x ≤ b) (hc : c ≤ y) (hd : y ≤ d) (h1 : a * c ≤ U) (h2 : a * d ≤ U) (h3 : b * c ≤ U) (h4 : b * d ≤ U) : x * y ≤ U := by
  rcases Rat.le_total (a := 0) (b := x) with hx | hx
  · have k1 := Rat.mul_le_mul_of_nonneg_left hd hx
    rcases Rat.le_total (a := 0) (b := d) with h | h
    · have k2 := Rat.mul_le_mul_of_nonneg_right hb h; grind
    · have k2 := Rat.mul_le_mul_of_nonneg_right ha (show 0 ≤ -d by grind); grind
  · have k1 := Rat.mul_le_mul_of_nonneg_left hc (show 0 ≤ -x by grind)
    rcases Rat.le_total (a := 0) (b := c) with h | h
    · have k2 := Rat.mul_le_mul_of_nonneg_right hb h; grind
    · have k2 := Rat.mul_le_mul_of_nonneg_right ha (show 0 ≤ -c by grind); grind
theorem le_mul4 {a b c d x y U : Rat} (ha : a ≤ x) (hb : x ≤ b) (hc : c ≤ y) (hd : y ≤ d) (h1 : U ≤ a * c) (h2 : U ≤ a * d) (h3 : U ≤ b * c) (h4 : U ≤ b * d) : U ≤ x * y := by
  have := mul_le4 (U := -U) (show -b ≤ -x by grind) (show -x ≤ -a by grind) hc hd (by grind) (by grind) (by grind) (by grind)
  grind
/-- |a| ≤ A -/
theorem abs_of {l u x A : Rat} (hl : l ≤ x) (hu : x ≤ u) (h1 : -A ≤ l) (h2 : u ≤ A) : Abs x A := ⟨by grind, by grind⟩
theorem near_mul {x y E F a b A B : Rat} (hx : Near x E a) (hy : Near y F b) (hA : Abs x A) (hB : Abs y B) : Near (x * y) (E * F) (A * b + (B + b) * a) := by
  have h1 : Abs (y - F) b := by unfold Near at hy; unfold Abs; constructor <;> grind
  have h2 : Abs (x - E) a := by unfold Near at hx; unfold Abs; constructor <;> grind
  have h3 : Abs F (B + b) := by unfold Near at hy; unfold Abs at *; constructor <;> grind
  have k1 := abs_mul hA h1
  have k2 := abs_mul h3 h2
  unfold Abs at k1 k2
  unfold Near
  constructor <;> grind
structure OkA (a b l u ex ey B e : Rat) : Prop where
  b1 : -B ≤ a
  b2 : b ≤ B
  b3 : B ≤ 10 ^ 300
  l : l + B / 10 ^ 15 + 1 / 10 ^ 310 ≤ a
  u : b + B / 10 ^ 15 + 1 / 10 ^ 310 ≤ u
  e : ex + ey + B / 10 ^ 15 + 1 / 10 ^ 310 ≤ e
theorem t300 : (10 : Rat) ^ 300 < two 1022 := by unfold two; decide +kernel
theorem eta310 : 3 * eta ≤ 1 / 10 ^ 310 := by
  have := eta_small
  have : (3 : Rat) / 10 ^ 320 ≤ 1 / 10 ^ 310 := by decide +kernel
  grind
theorem errB {B : Rat} (h : 0 ≤ B) : uu * B + eta ≤ B / 10 ^ 15 + 1 / 10 ^ 310 := by
  have h1 := Rat.mul_le_mul_of_nonneg_right uu_small h
  have h2 := eta310
  have := eta_pos
  grind
theorem uu3_small : 3 * uu ≤ 1 / 10 ^ 15 := by rw [uu_val]; decide +kernel
theorem errB3 {B : Rat} (h : 0 ≤ B) : 3 * uu * B + eta ≤ B / 10 ^ 15 + 1 / 10 ^ 310 := by
  have h1 := Rat.mul_le_mul_of_nonneg_right uu3_small h
  have h2 := eta310
  have := eta_pos
  grind
theorem Tr.mk' {r : Nat} {v E l u a b B e ee : Rat} (f : Flt.fin r) (hn : Near (val r) v (B / 10 ^ 15 + 1 / 10 ^ 310)) (h1 : a ≤ v) (h2 : v ≤ b) (hl : l + B / 10 ^ 15 + 1 / 10 ^ 310 ≤ a) (hu : b + B / 10 ^ 15 + 1 / 10 ^ 310 ≤ u) (hE : Near v E ee) (he : ee + B / 10 ^ 15 + 1 / 10 ^ 310 ≤ e) : Tr r l u E e :=
  ⟨f, by unfold Near at hn; grind, by unfold Near at hn; grind, near_mono (near_trans hn hE) (by grind)⟩
theorem add_t {x y : Nat} {a b c d Ex Ey ex ey : Rat} (l u B e : Rat) (hx : Tr x a b Ex ex) (hy : Tr y c d Ey ey) (h : OkA (a + c) (b + d) l u ex ey B e) : ∃ r, floatBits .add .f64 x y = some r ∧ Tr r l u (Ex + Ey) e := by
  have h1 : a + c ≤ val x + val y := by have := hx.lo; have := hy.lo; grind
  have h2 : val x + val y ≤ b + d := by have := hx.hi; have := hy.hi; grind
  obtain ⟨o1, o2, o3, o4, o5, o6⟩ := h
  obtain ⟨r, k1, k2, k3⟩ := add_near x y hx.fin hy.fin B (by grind) (by grind) (by have := t300; have := t1022_lt; grind)
  refine ⟨r, k1, Tr.mk' (ee := ex + ey) k2 (near_mono k3 (errB (by grind))) h1 h2 o4 o5 ?_ o6⟩
  have n1 := hx.near; have n2 := hy.near
  unfold Near at *; constructor <;> grind
theorem sub_t {x y : Nat} {a b c d Ex Ey ex ey : Rat} (l u B e : Rat) (hx : Tr x a b Ex ex) (hy : Tr y c d Ey ey) (h : OkA (a - d) (b - c) l u ex ey B e) : ∃ r, floatBits .sub .f64 x y = some r ∧ Tr r l u (Ex - Ey) e := by
  have h1 : a - d ≤ val x - val y := by have := hx.lo; have := hy.hi; grind
  have h2 : val x - val y ≤ b - c := by have := hx.hi; have := hy.lo; grind
  obtain ⟨o1, o2, o3, o4, o5, o6⟩ := h
  obtain ⟨r, k1, k2, k3⟩ := sub_near x y hx.fin hy.fin B (by grind) (by grind) (by have := t300; have := t1022_lt; grind)
  refine ⟨r, k1, Tr.mk' (ee := ex + ey) k2 (near_mono k3 (errB (by grind))) h1 h2 o4 o5 ?_ o6⟩
  have n1 := hx.near; have n2 := hy.near
  unfold Near at *; constructor <;> grind
structure OkM (a b c d l u ex ey A C B e : Rat) : Prop where
  a1 : -A ≤ a
  a2 : b ≤ A
  c1 : -C ≤ c
  c2 : d ≤ C
  b3 : B ≤ 10 ^ 300
  b1 : A * C ≤ B
  l1 : l + B / 10 ^ 15 + 1 / 10 ^ 310 ≤ a * c
  l2 : l + B / 10 ^ 15 + 1 / 10 ^ 310 ≤ a * d
  l3 : l + B / 10 ^ 15 + 1 / 10 ^ 310 ≤ b * c
  l4 : l + B / 10 ^ 15 + 1 / 10 ^ 310 ≤ b * d
  u1 : a * c + B / 10 ^ 15 + 1 / 10 ^ 310 ≤ u
  u2 : a * d + B / 10 ^ 15 + 1 / 10 ^ 310 ≤ u
  u3 : b * c + B / 10 ^ 15 + 1 / 10 ^ 310 ≤ u
  u4 : b * d + B / 10 ^ 15 + 1 / 10 ^ 310 ≤ u
  e : A * ey + (C + ey) * ex + B / 10 ^ 15 + 1 / 10 ^ 310 ≤ e
theorem mul_t {x y : Nat} {a b c d Ex Ey ex ey : Rat} (l u A C B e : Rat) (hx : Tr x a b Ex ex) (hy : Tr y c d Ey ey) (h : OkM a b c d l u ex ey A C B e) : ∃ r, floatBits .mul .f64 x y = some r ∧ Tr r l u (Ex * Ey) e := by
  obtain ⟨a1, a2, c1, c2, b3, b1, l1, l2, l3, l4, u1, u2, u3, u4, he⟩ := h
  have hA := abs_of hx.lo hx.hi a1 a2
  have hC := abs_of hy.lo hy.hi c1 c2
  have hB := abs_le (abs_mul hA hC) b1
  have h1 := le_mul4 hx.lo hx.hi hy.lo hy.hi l1 l2 l3 l4
  have h2 := mul_le4 (U := u - B / 10 ^ 15 - 1 / 10 ^ 310) hx.lo hx.hi hy.lo hy.hi (by grind) (by grind) (by grind) (by grind)
  obtain ⟨r, k1, k2, k3⟩ := mul_near x y hx.fin hy.fin B hB.1 hB.2 (by have := t300; have := t1022_lt; grind)
  exact ⟨r, k1, Tr.mk' (ee := A * ey + (C + ey) * ex) k2 (near_mono k3 (errB (abs_nonneg hB))) h1 h2 (by grind) (by grind) (near_mul hx.near hy.near hA hC) he⟩
theorem div_le {x y q : Rat} (hy : 0 < y) (h : x ≤ q * y) : x / y ≤ q := by
  have e : x / y * y = x := Rat.div_mul_cancel (by grind)
  rcases Rat.le_total (a := x / y) (b := q) with c | c
  · exact c
  · by_cases c' : x / y = q
    · grind
    · have := Rat.mul_pos (show 0 < x / y - q by grind) hy; grind
theorem le_div {x y q : Rat} (hy : 0 < y) (h : q * y ≤ x) : q ≤ x / y := by
  have e : x / y * y = x := Rat.div_mul_cancel (by grind)
  rcases Rat.le_total (a := q) (b := x / y) with c | c
  · exact c
  · by_cases c' : x / y = q
    · grind
    · have := Rat.mul_pos (show 0 < q - x / y by grind) hy; grind
theorem near_div {x y E F a b c Q : Rat} (hx : Near x E a) (hy : Near y F b) (hc : c ≤ y) (h0 : 0 < c - b) (hQ : Abs (x / y) Q) : Near (x / y) (E / F) ((a + Q * b) / (c - b)) := by
  have hF : 0 < F := by unfold Near at hy; grind
  have hFc : c - b ≤ F := by unfold Near at hy; grind
  have hy0 : 0 < y := by unfold Near at hy; grind
  have e1 : x / y * y = x := Rat.div_mul_cancel (by grind)
  have h1 : Abs (y - F) b := by unfold Near at hy; unfold Abs; constructor <;> grind
  have k := abs_mul hQ h1
  have hab : Abs (x - E) a := by unfold Near at hx; unfold Abs; constructor <;> grind
  -- x/y - E/F = ((x/y)*(F - y) + (x - E)) / F
  have e2 : E / F * F = E := Rat.div_mul_cancel (by grind)
  have e3 : (x / y - E / F) * F = (x - E) - x / y * (y - F) := by grind
  have hw : Abs ((x / y - E / F) * F) (a + Q * b) := by rw [e3]; unfold Abs at *; constructor <;> grind
  have hab0 := abs_nonneg hw
  have e4 : (a + Q * b) / (c - b) * (c - b) = a + Q * b := Rat.div_mul_cancel (by grind)
  have hq0 : 0 ≤ (a + Q * b) / (c - b) := le_div h0 (by grind)
  have k2 := Rat.mul_le_mul_of_nonneg_left hFc hq0
  generalize (a + Q * b) / (c - b) = e at *
  generalize x / y = q at *
  generalize E / F = p at *
  have : q - p ≤ e := by
    rcases Rat.le_total (a := q - p) (b := e) with c | c
    · exact c
    · have := Rat.mul_le_mul_of_nonneg_right c (Rat.le_of_lt hF)
      unfold Abs at hw
      by_cases c' : q - p = e
      · grind
      · have := Rat.mul_pos (show 0 < q - p - e by grind) hF; grind
  have : -e ≤ q - p := by
    rcases Rat.le_total (a := -e) (b := q - p) with c | c
    · exact c
    · unfold Abs at hw
      by_cases c' : q - p = -e
      · grind
      · have := Rat.mul_pos (show 0 < -e - (q - p) by grind) hF; grind
  unfold Near; constructor <;> grind
structure OkD (a b c d l u ex ey B e : Rat) : Prop where
  c0 : 0 < c - ey
  b3 : B ≤ 10 ^ 300
  b1 : -(B * c) ≤ a ∧ -(B * d) ≤ a
  b2 : b ≤ B * c ∧ b ≤ B * d
  l1 : (l + B / 10 ^ 15 + 1 / 10 ^ 310) * c ≤ a
  l2 : (l + B / 10 ^ 15 + 1 / 10 ^ 310) * d ≤ a
  u1 : b ≤ (u - B / 10 ^ 15 - 1 / 10 ^ 310) * c
  u2 : b ≤ (u - B / 10 ^ 15 - 1 / 10 ^ 310) * d
  e : (ex + B * ey) / (c - ey) + B / 10 ^ 15 + 1 / 10 ^ 310 ≤ e
theorem lin_le {c d y p q : Rat} (h1 : c ≤ y) (h2 : y ≤ d) (hc : p ≤ q * c) (hd : p ≤ q * d) : p ≤ q * y := by
  rcases Rat.le_total (a := 0) (b := q) with h | h
  · have := Rat.mul_le_mul_of_nonneg_left h1 h; grind
  · have := Rat.mul_le_mul_of_nonneg_left h2 (show 0 ≤ -q by grind); grind
theorem div_t {x y : Nat} {a b c d Ex Ey ex ey : Rat} (l u B e : Rat) (hx : Tr x a b Ex ex) (hy : Tr y c d Ey ey) (hey : 0 ≤ ey) (h : OkD a b c d l u ex ey B e) : ∃ r, floatBits .quo .f64 x y = some r ∧ Tr r l u (Ex / Ey) e := by
  obtain ⟨c0, b3, b1, b2, l1, l2, u1, u2, he⟩ := h
  have hy0 : 0 < val y := by have := hy.lo; grind
  have hB1 : -B ≤ val x / val y := le_div hy0 (by have := lin_le (q := B) (p := -a) hy.lo hy.hi (by grind) (by grind); have := hx.lo; grind)
  have hB2 : val x / val y ≤ B := div_le hy0 (by have := lin_le (q := B) (p := b) hy.lo hy.hi b2.1 b2.2; have := hx.hi; grind)
  have hB : Abs (val x / val y) B := ⟨hB1, hB2⟩
  have h1 : l + B / 10 ^ 15 + 1 / 10 ^ 310 ≤ val x / val y := le_div hy0 (by have := lin_le (q := -(l + B / 10 ^ 15 + 1 / 10 ^ 310)) (p := -a) hy.lo hy.hi (by grind) (by grind); have := hx.lo; grind)
  have h2 : val x / val y ≤ u - B / 10 ^ 15 - 1 / 10 ^ 310 := div_le hy0 (by have := lin_le (q := (u - B / 10 ^ 15 - 1 / 10 ^ 310)) (p := b) hy.lo hy.hi u1 u2; have := hx.hi; grind)
  obtain ⟨r, k1, k2, k3⟩ := div_near x y hx.fin hy.fin (by grind) B hB1 hB2 (by have := t300; grind)
  exact ⟨r, k1, Tr.mk' (ee := (ex + B * ey) / (c - ey)) k2 (near_mono k3 (errB3 (abs_nonneg hB))) h1 h2 (by grind) (by grind) (near_div hx.near hy.near hy.lo c0 hB) he⟩
/-- a known word -/
theorem Tr.const {x : Nat} {v : Rat} (h : Flt.fin x ∧ val x = v) : Tr x v v v 0 := ⟨h.1, by rw [h.2]; exact Rat.le_refl, by rw [h.2]; exact Rat.le_refl, by rw [h.2]; unfold Near; constructor <;> grind⟩
/-- a word whose value is taken for the exact one -/
theorem Tr.self {x : Nat} {l u : Rat} (f : Flt.fin x) (h1 : l ≤ val x) (h2 : val x ≤ u) : Tr x l u (val x) 0 := ⟨f, h1, h2, by unfold Near; constructor <;> grind⟩
theorem Tr.to {x : Nat} {l u E e l' u' e' : Rat} (h : Tr x l u E e) (E' : Rat) (hl : l' ≤ l) (hu : u ≤ u') (he : e ≤ e') (hE : E = E') : Tr x l' u' E' e' := ⟨h.fin, by have := h.lo; grind, by have := h.hi; grind, by subst hE; exact near_mono h.near he⟩
/-- tighter bounds from the exact value -/
theorem Tr.cut {x : Nat} {l u E e : Rat} (h : Tr x l u E e) {l' u' : Rat} (h1 : l' + e ≤ E) (h2 : E + e ≤ u') : Tr x l' u' E e := ⟨h.fin, by have := h.near; unfold Near at this; grind, by have := h.near; unfold Near at this; grind, h.near⟩
theorem Tr.shift {x : Nat} {l u E e E' d e' : Rat} (h : Tr x l u E e) (hE : Near E E' d) (he : e + d ≤ e') : Tr x l u E' e' := ⟨h.fin, h.lo, h.hi, near_mono (near_trans h.near hE) he⟩
end Go.Proofs.YtkbgkogfjfojgaaDoor.Flt

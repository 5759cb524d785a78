/- Directions: where the angle's sine and cosine polynomials point, by the branch of the arc tangent that gave the angle. -/
import Derived.Test.YtkbgkogfjfojgaaDoorPc
set_option linter.unusedSimpArgs false
set_option linter.unusedVariables false
set_option maxRecDepth 100000
namespace Go.Proofs.YtkbgkogfjfojgaaDoor.Pc
theorem ev_nonneg : ∀ (p : List Int) (x : Rat), p.all (fun c => decide (0 ≤ c)) = true → 0 ≤ x → 0 ≤ ev p x
  | [], x, _, _ => by rw [ev_nil]; exact Rat.le_refl
  | c :: p, x, h, hx => by
    simp only [List.all_cons, Bool.and_eq_true, decide_eq_true_eq] at h
    have h1 := ev_nonneg p x h.2 hx
    have h2 := Rat.mul_nonneg hx h1
    have h3 : (0 : Rat) ≤ (c : Rat) := by exact_mod_cast h.1
    rw [ev_cons]
    grind
theorem n_le (z : Rat) (hz : 0 ≤ z) : 0 ≤ nR z ∧ nR z ≤ qR z := by
  have h1 := ev_nonneg nzI z (by decide +kernel) hz
  have h2 := ev_nonneg (addP qzI (scP (-1) nzI)) z (by decide +kernel) hz
  rw [ev_add, ev_sc] at h2
  unfold nR qR
  rw [homR_ev, homR_ev]
  constructor
  · exact h1
  · have : ((-1 : Int) : Rat) = -1 := rfl
    rw [this] at h2
    grind
theorem ratio_bd (u : Rat) (hu : Bd u (661 / 1000)) : 0 ≤ nR (u * u) / qR (u * u) ∧ nR (u * u) / qR (u * u) ≤ 1 := by
  have hq := (fit_u u hu).1
  have hn := n_le (u * u) (sq_nn u)
  have e : nR (u * u) / qR (u * u) * qR (u * u) = nR (u * u) := Rat.div_mul_cancel (by grind)
  generalize nR (u * u) / qR (u * u) = r at *
  generalize qR (u * u) = Q at *
  constructor
  · refine Rat.not_lt.1 (fun h => ?_)
    have := Rat.mul_pos (show 0 < -r by grind) hq
    grind
  · refine Rat.not_lt.1 (fun h => ?_)
    have := Rat.mul_pos (show 0 < r - 1 by grind) hq
    grind
theorem atan_pos (u : Rat) (h0 : 0 ≤ u) (hu : u ≤ 661 / 1000) : 0 ≤ atanP u ∧ atanP u ≤ u := by
  have h := ratio_bd u (by unfold Bd; constructor <;> grind)
  have h1 := Rat.mul_nonneg h0 h.1
  have h2 := Rat.mul_nonneg h0 (show 0 ≤ 1 - nR (u * u) / qR (u * u) by grind)
  unfold atanP
  constructor <;> grind
theorem atan_neg (u : Rat) : atanP (-u) = - atanP u := by
  unfold atanP
  have : -u * -u = u * u := by grind
  rw [this]
  grind
theorem sin_neg (u : Rat) : sinP (-u) = - sinP u := by
  unfold sinP
  have : -u * -u = u * u := by grind
  rw [this]
  grind
theorem cos_neg (u : Rat) : cosP (-u) = cosP u := by
  unfold cosP
  have : -u * -u = u * u := by grind
  rw [this]
theorem p4_bd : 785 / 1000 ≤ p4 ∧ p4 ≤ 786 / 1000 := by unfold p4; constructor <;> decide +kernel
/-- the angle of p, q, by the branch that gave it -/
def Br (p q a e : Rat) : Prop := (∃ u, 0 ≤ u ∧ u ≤ 661 / 1000 ∧ a = atanP u ∧ Bd (q - u * p) e) ∨ (∃ u, 0 ≤ u ∧ u ≤ 42 / 100 ∧ a = 2 * p4 - atanP u ∧ Bd (p - u * q) e) ∨ (∃ v, -21 / 100 ≤ v ∧ v ≤ 42 / 100 ∧ a = p4 + atanP v ∧ Bd ((q - p) - v * (p + q)) e)
theorem atan_small (v : Rat) (h1 : -21 / 100 ≤ v) (h2 : v ≤ 42 / 100) : -21 / 100 ≤ atanP v ∧ atanP v ≤ 42 / 100 := by
  rcases Rat.le_total (a := 0) (b := v) with h | h
  · have := atan_pos v h (by grind); constructor <;> grind
  · have := atan_pos (-v) (by grind) (by grind)
    rw [atan_neg] at this
    constructor <;> grind
theorem Br.range {p q a e : Rat} (h : Br p q a e) : 0 ≤ a ∧ a ≤ 2 * p4 := by
  have := p4_bd
  rcases h with ⟨u, h1, h2, h3, _⟩ | ⟨u, h1, h2, h3, _⟩ | ⟨v, h1, h2, h3, _⟩
  · have := atan_pos u h1 h2; constructor <;> grind
  · have := atan_pos u h1 (by grind); constructor <;> grind
  · have := atan_small v h1 h2; constructor <;> grind
theorem bd_tri {a b c A B : Rat} (h1 : Bd (a - b) A) (h2 : Bd (b - c) B) : Bd (a - c) (A + B) := by unfold Bd at *; constructor <;> grind
theorem bd_sym {a b A : Rat} (h : Bd (a - b) A) : Bd (b - a) A := by unfold Bd at *; constructor <;> grind
theorem dirA (p q u z e d : Rat) (hp : 0 ≤ p) (hq : 0 ≤ q) (hn : Bd (p * p + q * q - 1) e) (he0 : 1 / 500000000000000 ≤ e) (he : e ≤ 1 / 2000000) (d0 : 0 ≤ d) (hd : d ≤ 1 / 1000000) (h1 : 0 ≤ u) (h2 : u ≤ 661 / 1000) (hr : Bd (q - u * p) e) (hz : Bd (z - atanP u) d) : Bd (cosP z - p) (110 * e + 12 * d) ∧ Bd (sinP z - q) (110 * e + 12 * d) := by
  have ha := atan_pos u h1 h2
  have hA : Bd (atanP u) (79 / 100) := by unfold Bd; constructor <;> grind
  have k := brA p q u (cosP (atanP u)) (sinP (atanP u)) e he0 (by grind) h1 h2 hp hq hn hr hA (by unfold Bd; constructor <;> grind) (by unfold Bd; constructor <;> grind)
  have hA1 := bd_mono hA (show (79 : Rat) / 100 ≤ 1 by decide +kernel)
  have hz1 : Bd z 1 := by unfold Bd at hz hA ⊢; constructor <;> grind
  have l1 := cos_lip hz1 hA1 hz
  have l2 := sin_lip hz1 hA1 hz
  exact ⟨bd_mono (bd_tri l1 (bd_sym k.1)) (by grind), bd_mono (bd_tri l2 (bd_sym k.2)) (by grind)⟩
/-- the middle branch: z near w + k p4, w the branch's angle, w' near it in the certificate's range -/
theorem dirC (p q v z e d w' C' S' : Rat) (hp : 0 ≤ p) (hq : 0 ≤ q) (hn : Bd (p * p + q * q - 1) e) (he0 : 1 / 500000000000000 ≤ e) (he : e ≤ 1 / 2000000) (d0 : 0 ≤ d) (hd : d ≤ 1 / 1000000) (h1 : -21 / 100 ≤ v) (h2 : v ≤ 42 / 100) (hr : Bd ((q - p) - v * (p + q)) e) (hw : Bd (w' - atanP v) (2 * d)) (x : Rat) (hx : Bd x 1) (hz : Bd (z - x) (3 * d)) (hz1 : Bd z 1)
    (hC : Bd (C' - rr * (cosP w' - sinP w')) (1 / 400000000000000)) (hS : Bd (S' - rr * (cosP w' + sinP w')) (1 / 400000000000000)) : Bd (C' - p) (110 * e + 6 * d) ∧ Bd (S' - q) (110 * e + 6 * d) := by
  have ha := atan_small v h1 h2
  have hA : Bd (atanP v) (79 / 100) := by unfold Bd; constructor <;> grind
  have k := brC p q v (rr * (cosP (atanP v) - sinP (atanP v))) (rr * (cosP (atanP v) + sinP (atanP v))) e he0 he (by unfold Bd; constructor <;> grind) hp hq hn hr hA (by unfold Bd; constructor <;> grind) (by unfold Bd; constructor <;> grind)
  have hA1 := bd_mono hA (show (79 : Rat) / 100 ≤ 1 by decide +kernel)
  have hw1 : Bd w' 1 := by unfold Bd at hw hA ⊢; constructor <;> grind
  have l1 := cos_lip hw1 hA1 hw
  have l2 := sin_lip hw1 hA1 hw
  have hrr : Bd rr (71 / 100) := by have := rr_bd; unfold Bd; constructor <;> grind
  have m1 := bd_mul hrr (bd_add l1 (bd_neg l2))
  have m2 := bd_mul hrr (bd_add l1 l2)
  have e1 : rr * (cosP w' - cosP (atanP v) + -(sinP w' - sinP (atanP v))) = rr * (cosP w' - sinP w') - rr * (cosP (atanP v) - sinP (atanP v)) := by grind
  have e2 : rr * (cosP w' - cosP (atanP v) + (sinP w' - sinP (atanP v))) = rr * (cosP w' + sinP w') - rr * (cosP (atanP v) + sinP (atanP v)) := by grind
  rw [e1] at m1
  rw [e2] at m2
  exact ⟨bd_mono (bd_tri hC (bd_tri m1 (bd_sym k.1))) (by grind), bd_mono (bd_tri hS (bd_tri m2 (bd_sym k.2))) (by grind)⟩
theorem dir0p (p q a z e d : Rat) (hp : 0 ≤ p) (hq : 0 ≤ q) (hn : Bd (p * p + q * q - 1) e) (he0 : 1 / 500000000000000 ≤ e) (he : e ≤ 1 / 2000000) (d0 : 0 ≤ d) (hd : d ≤ 1 / 1000000) (hB : Br p q a e) (hz : Bd (z - a) d) (hz2 : Bd z (p4 + d)) : Bd (cosP z - p) (110 * e + 12 * d) ∧ Bd (sinP z - q) (110 * e + 12 * d) := by
  have hp4 := p4_bd
  rcases hB with ⟨u, h1, h2, rfl, hr⟩ | ⟨u, h1, h2, rfl, hr⟩ | ⟨v, h1, h2, rfl, hr⟩
  · exact dirA p q u z e d hp hq hn he0 he d0 hd h1 h2 hr hz
  · exfalso
    have := atan_pos u h1 (by grind)
    unfold Bd at hz hz2
    grind
  · have ha := atan_small v h1 h2
    have hz1 : Bd z 1 := by unfold Bd at hz2 ⊢; constructor <;> grind
    obtain ⟨w', hw, w1, w2⟩ : ∃ w', Bd (w' - atanP v) (2 * d) ∧ -27 / 128 ≤ w' ∧ w' ≤ 0 := by
      rcases Rat.le_total (a := atanP v) (b := 0) with h | h
      · exact ⟨atanP v, by unfold Bd; constructor <;> grind, by grind, h⟩
      · exact ⟨0, by unfold Bd at *; constructor <;> grind, by decide +kernel, Rat.le_refl⟩
    have sh := shift 1 (-27) 27 kert0 w' ((256 * w' + 27) / 27) (by unfold Bd; constructor <;> grind) (by have : ((-27 : Int) : Rat) = -27 := rfl
                                                                                                          have : ((27 : Int) : Rat) = 27 := rfl
                                                                                                          grind)
    have o1 : ((1 : Int) : Rat) = 1 := rfl
    rw [o1] at sh
    have hx : Bd (w' + 1 * p4) 1 := by unfold Bd; constructor <;> grind
    have hzx : Bd (z - (w' + 1 * p4)) (3 * d) := by unfold Bd at *; constructor <;> grind
    have k := dirC p q v z e d w' (cosP (w' + 1 * p4)) (sinP (w' + 1 * p4)) hp hq hn he0 he d0 hd h1 h2 hr hw (w' + 1 * p4) hx hzx hz1 (by have := sh.2; rwa [Rat.one_mul (sinP w')] at this) (by have := sh.1; rw [Rat.one_mul (cosP w'), Rat.add_comm (sinP w')] at this; exact this)
    have l1 := cos_lip hz1 hx hzx
    have l2 := sin_lip hz1 hx hzx
    exact ⟨bd_mono (bd_tri l1 k.1) (by grind), bd_mono (bd_tri l2 k.2) (by grind)⟩
theorem c28 : ((28 : Int) : Rat) = 28 := rfl
theorem c84 : ((84 : Int) : Rat) = 84 := rfl
theorem c27 : ((27 : Int) : Rat) = 27 := rfl
theorem c27' : ((-27 : Int) : Rat) = -27 := rfl
theorem dir2p (p q a z e d : Rat) (hp : 0 ≤ p) (hq : 0 ≤ q) (hn : Bd (p * p + q * q - 1) e) (he0 : 1 / 500000000000000 ≤ e) (he : e ≤ 1 / 2000000) (d0 : 0 ≤ d) (hd : d ≤ 1 / 1000000) (hB : Br p q a e) (hz : Bd (z - (a - 2 * p4)) d) (hz2 : Bd z (p4 + d)) : Bd (cosP z - q) (110 * e + 12 * d) ∧ Bd (sinP z - -p) (110 * e + 12 * d) := by
  have hp4 := p4_bd
  rcases hB with ⟨u, h1, h2, rfl, hr⟩ | ⟨u, h1, h2, rfl, hr⟩ | ⟨v, h1, h2, rfl, hr⟩
  · exfalso
    have := atan_pos u h1 h2
    unfold Bd at hz hz2
    grind
  · have hn' : Bd (q * q + p * p - 1) e := by
      have : q * q + p * p - 1 = p * p + q * q - 1 := by grind
      rw [this]; exact hn
    have k := dirA q p u (-z) e d hq hp hn' he0 he d0 hd h1 (by grind) hr (by unfold Bd at *; constructor <;> grind)
    rw [cos_neg, sin_neg] at k
    exact ⟨k.1, by have := k.2; unfold Bd at *; constructor <;> grind⟩
  · have ha := atan_small v h1 h2
    have hz1 : Bd z 1 := by unfold Bd at hz2 ⊢; constructor <;> grind
    obtain ⟨w', hw, w1, w2⟩ : ∃ w', Bd (w' - atanP v) (2 * d) ∧ 0 ≤ w' ∧ w' ≤ 7 / 16 := by
      rcases Rat.le_total (a := atanP v) (b := 0) with h | h
      · exact ⟨0, by unfold Bd at *; constructor <;> grind, Rat.le_refl, by decide +kernel⟩
      · exact ⟨atanP v, by unfold Bd; constructor <;> grind, h, by grind⟩
    have sh : Bd (sinP (w' + -1 * p4) - rr * (sinP w' + -1 * cosP w')) (1 / 400000000000000) ∧ Bd (cosP (w' + -1 * p4) - rr * (cosP w' - -1 * sinP w')) (1 / 400000000000000) := by
      rcases Rat.le_total (a := w') (b := 7 / 32) with h | h
      · exact shift (-1) 28 28 kert1 w' ((256 * w' - 28) / 28) (by unfold Bd; constructor <;> grind) (by rw [c28]; grind)
      · exact shift (-1) 84 28 kert2 w' ((256 * w' - 84) / 28) (by unfold Bd; constructor <;> grind) (by rw [c28, c84]; grind)
    have hx : Bd (w' + -1 * p4) 1 := by unfold Bd; constructor <;> grind
    have hzx : Bd (z - (w' + -1 * p4)) (3 * d) := by unfold Bd at *; constructor <;> grind
    have k := dirC p q v z e d w' (-(sinP (w' + -1 * p4))) (cosP (w' + -1 * p4)) hp hq hn he0 he d0 hd h1 h2 hr hw (w' + -1 * p4) hx hzx hz1 (by have := sh.1; unfold Bd at *; constructor <;> grind) (by have := sh.2; unfold Bd at *; constructor <;> grind)
    have l1 := cos_lip hz1 hx hzx
    have l2 := sin_lip hz1 hx hzx
    exact ⟨bd_mono (bd_tri l1 k.2) (by grind), bd_mono (bd_tri l2 (b := sinP (w' + -1 * p4)) (c := -p) (B := 110 * e + 6 * d) (by have := k.1; unfold Bd at *; constructor <;> grind)) (by grind)⟩
/-- what k quarter turns make of the two polynomials: the cosine, the sine -/
def cosK (k : Nat) (z : Rat) : Rat := match k with | 0 => cosP z | 1 => - sinP z | 2 => - cosP z | 3 => sinP z | _ => cosP z
def sinK (k : Nat) (z : Rat) : Rat := match k with | 0 => sinP z | 1 => cosP z | 2 => - sinP z | 3 => - cosP z | _ => sinP z
/-- the four quadrants: s = 1, m = 0; s = -1, m = 4; s = 1, m = 4; s = -1, m = 8: the angle is m p4 + s a, the point (sx p, sy q) -/
theorem quad (p q a z e d x : Rat) (k : Nat) (hk : k ≤ 4) (hp : 0 ≤ p) (hq : 0 ≤ q) (hn : Bd (p * p + q * q - 1) e) (he0 : 1 / 500000000000000 ≤ e) (he : e ≤ 1 / 2000000) (d0 : 0 ≤ d) (hd : d ≤ 1 / 1000000) (hB : Br p q a e) (hz : z = x - 2 * (k : Rat) * p4) (hz2 : Bd z (p4 + d))
    (s m sx sy : Rat) (h : (s = 1 ∧ m = 0 ∧ sx = 1 ∧ sy = 1) ∨ (s = -1 ∧ m = 4 ∧ sx = -1 ∧ sy = 1) ∨ (s = 1 ∧ m = 4 ∧ sx = -1 ∧ sy = -1) ∨ (s = -1 ∧ m = 8 ∧ sx = 1 ∧ sy = -1)) (hx : Bd (x - (m * p4 + s * a)) d) : Bd (cosK k z - sx * p) (110 * e + 12 * d) ∧ Bd (sinK k z - sy * q) (110 * e + 12 * d) := by
  have hp4 := p4_bd
  have hr := hB.range
  have D0 := dir0p p q a z e d hp hq hn he0 he d0 hd hB
  have D1 := dir0p p q a (-z) e d hp hq hn he0 he d0 hd hB
  have D2 := dir2p p q a z e d hp hq hn he0 he d0 hd hB
  have D3 := dir2p p q a (-z) e d hp hq hn he0 he d0 hd hB
  rw [cos_neg, sin_neg] at D1 D3
  have hz2' : Bd (-z) (p4 + d) := bd_neg hz2
  generalize 110 * e + 12 * d = E at *
  have hk' : k = 0 ∨ k = 1 ∨ k = 2 ∨ k = 3 ∨ k = 4 := by omega
  have n0 : ((0 : Nat) : Rat) = 0 := rfl
  have n1 : ((1 : Nat) : Rat) = 1 := rfl
  have n2 : ((2 : Nat) : Rat) = 2 := rfl
  have n3 : ((3 : Nat) : Rat) = 3 := rfl
  have n4 : ((4 : Nat) : Rat) = 4 := rfl
  clear hn he0 he hB hp hq hk
  rcases h with ⟨rfl, rfl, rfl, rfl⟩ | ⟨rfl, rfl, rfl, rfl⟩ | ⟨rfl, rfl, rfl, rfl⟩ | ⟨rfl, rfl, rfl, rfl⟩
  · rcases hk' with rfl | rfl | rfl | rfl | rfl <;> simp only [n0, n1, n2, n3, n4, cosK, sinK] at *
    · have t := D0 (by clear D0 D1 D2 D3; unfold Bd at *; constructor <;> grind) hz2
      clear D0 D1 D2 D3 hx hz2 hz2' hz
      unfold Bd at *; refine ⟨⟨?_, ?_⟩, ?_, ?_⟩ <;> grind
    · have t := D2 (by clear D0 D1 D2 D3; unfold Bd at *; constructor <;> grind) hz2
      clear D0 D1 D2 D3 hx hz2 hz2' hz
      unfold Bd at *; refine ⟨⟨?_, ?_⟩, ?_, ?_⟩ <;> grind
    · exfalso; clear D0 D1 D2 D3; unfold Bd at *; grind
    · exfalso; clear D0 D1 D2 D3; unfold Bd at *; grind
    · exfalso; clear D0 D1 D2 D3; unfold Bd at *; grind
  · rcases hk' with rfl | rfl | rfl | rfl | rfl <;> simp only [n0, n1, n2, n3, n4, cosK, sinK] at *
    · exfalso; clear D0 D1 D2 D3; unfold Bd at *; grind
    · have t := D3 (by clear D0 D1 D2 D3; unfold Bd at *; constructor <;> grind) hz2'
      clear D0 D1 D2 D3 hx hz2 hz2' hz
      unfold Bd at *; refine ⟨⟨?_, ?_⟩, ?_, ?_⟩ <;> grind
    · have t := D1 (by clear D0 D1 D2 D3; unfold Bd at *; constructor <;> grind) hz2'
      clear D0 D1 D2 D3 hx hz2 hz2' hz
      unfold Bd at *; refine ⟨⟨?_, ?_⟩, ?_, ?_⟩ <;> grind
    · exfalso; clear D0 D1 D2 D3; unfold Bd at *; grind
    · exfalso; clear D0 D1 D2 D3; unfold Bd at *; grind
  · rcases hk' with rfl | rfl | rfl | rfl | rfl <;> simp only [n0, n1, n2, n3, n4, cosK, sinK] at *
    · exfalso; clear D0 D1 D2 D3; unfold Bd at *; grind
    · exfalso; clear D0 D1 D2 D3; unfold Bd at *; grind
    · have t := D0 (by clear D0 D1 D2 D3; unfold Bd at *; constructor <;> grind) hz2
      clear D0 D1 D2 D3 hx hz2 hz2' hz
      unfold Bd at *; refine ⟨⟨?_, ?_⟩, ?_, ?_⟩ <;> grind
    · have t := D2 (by clear D0 D1 D2 D3; unfold Bd at *; constructor <;> grind) hz2
      clear D0 D1 D2 D3 hx hz2 hz2' hz
      unfold Bd at *; refine ⟨⟨?_, ?_⟩, ?_, ?_⟩ <;> grind
    · exfalso; clear D0 D1 D2 D3; unfold Bd at *; grind
  · rcases hk' with rfl | rfl | rfl | rfl | rfl <;> simp only [n0, n1, n2, n3, n4, cosK, sinK] at *
    · exfalso; clear D0 D1 D2 D3; unfold Bd at *; grind
    · exfalso; clear D0 D1 D2 D3; unfold Bd at *; grind
    · exfalso; clear D0 D1 D2 D3; unfold Bd at *; grind
    · have t := D3 (by clear D0 D1 D2 D3; unfold Bd at *; constructor <;> grind) hz2'
      clear D0 D1 D2 D3 hx hz2 hz2' hz
      unfold Bd at *; refine ⟨⟨?_, ?_⟩, ?_, ?_⟩ <;> grind
    · have t := D1 (by clear D0 D1 D2 D3; unfold Bd at *; constructor <;> grind) hz2'
      clear D0 D1 D2 D3 hx hz2 hz2' hz
      unfold Bd at *; refine ⟨⟨?_, ?_⟩, ?_, ?_⟩ <;> grind
end Go.Proofs.YtkbgkogfjfojgaaDoor.Pc

/- math.cos and math.sin at a number of [0, 6.3]. -/
import Derived.Test.YtkbgkogfjfojgaaDoorAcc
import Derived.Test.YtkbgkogfjfojgaaDoorDir
set_option linter.unusedSimpArgs false
set_option linter.unusedVariables false
set_option maxRecDepth 100000
namespace Go.Proofs.YtkbgkogfjfojgaaDoor
open Go.RowKit
open Ieee Go
open Flt hiding F
open Pc (sinP cosP p4 Bd cosK sinK)
theorem c4pi : Flt.fin 4608412980311869571 ∧ val 4608412980311869571 = 5734161139222659 / 4503599627370496 := const_val (by decide +kernel) (by decide +kernel)
theorem cTHR : Flt.fin 4737786807993761792 ∧ val 4737786807993761792 = 536870912 := const_val (by decide +kernel) (by decide +kernel)
/-- what cos (function 32) and sin (function 34) give at the word x -/
def CosC (x c : Nat) : Prop := ∀ w, Tab w → Calls Tryd.prog 32 #[.float .f64 x] w fun e w' => e = .returned (.float .f64 c) ∧ w = w'
def SinC (x c : Nat) : Prop := ∀ w, Tab w → Calls Tryd.prog 34 #[.float .f64 x] w fun e w' => e = .returned (.float .f64 c) ∧ w = w'
structure Trig (x : Nat) (k c s : Nat) (v : Rat) : Prop where
  hk : k ≤ 4
  fc : Flt.fin c
  fs : Flt.fin s
  rg : Bd (v - 2 * (k : Rat) * p4) (p4 + 2 / 10 ^ 14)
  nc : Near (val c) (cosK k (v - 2 * (k : Rat) * p4)) (7 / 10 ^ 14)
  ns : Near (val s) (sinK k (v - 2 * (k : Rat) * p4)) (7 / 10 ^ 14)
  cc : CosC x c
  cs : SinC x s
theorem lipN {a b r : Rat} {f : Rat → Rat} (hl : Bd (f a - f b) (2 * (3 / 10 ^ 14))) (h : Near r (f a) (4 / 10 ^ 15)) : Near r (f b) (7 / 10 ^ 14) ∧ Near (-r) (-f b) (7 / 10 ^ 14) := by
  unfold Bd at hl
  unfold Near at *
  refine ⟨⟨?_, ?_⟩, ?_, ?_⟩ <;> grind
theorem zs {z v : Rat} (h : Near z v (3 / 10 ^ 14)) (hz : Abs z (79 / 100)) : Bd (sinP z - sinP v) (2 * (3 / 10 ^ 14)) ∧ Bd (cosP z - cosP v) (2 * (3 / 10 ^ 14)) := by
  have h1 : Bd z 1 := by unfold Abs at hz; unfold Bd; constructor <;> grind
  have h2 : Bd v 1 := by unfold Abs at hz; unfold Near at h; unfold Bd; constructor <;> grind
  have h3 : Bd (z - v) (3 / 10 ^ 14) := by unfold Near at h; unfold Bd; constructor <;> grind
  exact ⟨Pc.sin_lip h1 h2 h3, Pc.cos_lip h1 h2 h3⟩
theorem trig_0 (x mm : Nat) (hx : x < top) (h0 : 0 < val x) (h63 : val x ≤ 63 / 10) (hm : floatBits .mul .f64 x 4608412980311869571 = some mm) (hj : floatToIntVal .f64 mm .u64 = some 0) (h1 : Bd (val x - 2 * ((0 : Nat) : Rat) * p4) (p4 + 2 / 10 ^ 14)) : ∃ k c s, Trig x k c s (val x) := by
  have fx : Flt.fin x := word_fin false x hx
  have e1 : 2 * ((0 : Nat) : Rat) * p4 = 0 * p4 := by
    have : ((0 : Nat) : Rat) = 0 := rfl
    rw [this]; grind
  have h2 := h1
  rw [e1] at h2
  unfold Bd at h2
  have hp := Pc.p4_bd
  unfold p4 at h2 hp
  obtain ⟨z, hr, fz, az, nz⟩ := red_0 x fx (by grind) (by grind)
  obtain ⟨zs', zc'⟩ := zs nz az
  rw [← e1] at nz zs' zc'
  obtain ⟨zz, rc, hz, hE, fc, nc⟩ := cos_acc z fz az
  obtain ⟨zz2, rs, hz2, hE2, fs, ns⟩ := sin_acc z fz az
  have := inj_some hz hz2; subst this
  have hg : geB x 4737786807993761792 = false := by
    cases e : geB x 4737786807993761792
    · rfl
    · have := (geB_iff fx cTHR.1).1 e
      rw [cTHR.2] at this
      exfalso; grind
  have he : eqB x 0 = false := by
    cases e : eqB x 0
    · rfl
    · have := (eqB_iff fx zero_fin.1).1 e
      rw [zero_fin.2] at this
      exfalso; grind
  have hl : ltB x 0 = false := by
    cases e : ltB x 0
    · rfl
    · have := (ltB_iff fx zero_fin.1).1 e
      rw [zero_fin.2] at this
      exfalso; grind
  have lc := lipN zc' nc
  have ls := lipN zs' ns
  have bc : rc < 2 ^ 64 := by obtain ⟨_, _, _, _, _, _, _, _, _, _, _, _, _, _, _, _, _, _, _, _, _, _, _, _, _, _, _, _, h⟩ := hE; exact bits_lt h
  have bs : rs < 2 ^ 64 := by obtain ⟨_, _, _, _, _, _, _, _, _, _, _, _, _, _, _, _, _, _, _, _, _, _, _, _, h⟩ := hE2; exact bits_lt h
  exact ⟨0, rc, rs, ⟨by decide, fc, fs, h1, lc.1, ls.1, fun w hT => cos_0 x mm z zz rc w hx hT hg hm hj hr hz hE, fun w hT => sin_0 x mm z zz rs w hx hT hg hm hj hr hz hE2 he hl⟩⟩
theorem trig_1 (x mm : Nat) (hx : x < top) (h0 : 0 < val x) (h63 : val x ≤ 63 / 10) (hm : floatBits .mul .f64 x 4608412980311869571 = some mm) (hj : floatToIntVal .f64 mm .u64 = some 1) (h1 : Bd (val x - 2 * ((1 : Nat) : Rat) * p4) (p4 + 2 / 10 ^ 14)) : ∃ k c s, Trig x k c s (val x) := by
  have fx : Flt.fin x := word_fin false x hx
  have e1 : 2 * ((1 : Nat) : Rat) * p4 = 2 * p4 := by
    have : ((1 : Nat) : Rat) = 1 := rfl
    rw [this]; grind
  have h2 := h1
  rw [e1] at h2
  unfold Bd at h2
  have hp := Pc.p4_bd
  unfold p4 at h2 hp
  obtain ⟨z, hr, fz, az, nz⟩ := red_1 x fx (by grind) (by grind)
  obtain ⟨zs', zc'⟩ := zs nz az
  rw [← e1] at nz zs' zc'
  obtain ⟨zz, rc, hz, hE, fc, nc⟩ := sin_acc z fz az
  obtain ⟨zz2, rs, hz2, hE2, fs, ns⟩ := cos_acc z fz az
  have := inj_some hz hz2; subst this
  have hg : geB x 4737786807993761792 = false := by
    cases e : geB x 4737786807993761792
    · rfl
    · have := (geB_iff fx cTHR.1).1 e
      rw [cTHR.2] at this
      exfalso; grind
  have he : eqB x 0 = false := by
    cases e : eqB x 0
    · rfl
    · have := (eqB_iff fx zero_fin.1).1 e
      rw [zero_fin.2] at this
      exfalso; grind
  have hl : ltB x 0 = false := by
    cases e : ltB x 0
    · rfl
    · have := (ltB_iff fx zero_fin.1).1 e
      rw [zero_fin.2] at this
      exfalso; grind
  have lc := lipN zs' nc
  have ls := lipN zc' ns
  have bc : rc < 2 ^ 64 := by obtain ⟨_, _, _, _, _, _, _, _, _, _, _, _, _, _, _, _, _, _, _, _, _, _, _, _, h⟩ := hE; exact bits_lt h
  have bs : rs < 2 ^ 64 := by obtain ⟨_, _, _, _, _, _, _, _, _, _, _, _, _, _, _, _, _, _, _, _, _, _, _, _, _, _, _, _, h⟩ := hE2; exact bits_lt h
  exact ⟨1, negB rc, rs, ⟨by decide, (negB_val bc fc).1, fs, h1, by rw [(negB_val bc fc).2]; exact lc.2, ls.1, fun w hT => cos_1 x mm z zz rc w hx hT hg hm hj hr hz hE, fun w hT => sin_1 x mm z zz rs w hx hT hg hm hj hr hz hE2 he hl⟩⟩
theorem trig_2 (x mm : Nat) (hx : x < top) (h0 : 0 < val x) (h63 : val x ≤ 63 / 10) (hm : floatBits .mul .f64 x 4608412980311869571 = some mm) (hj : floatToIntVal .f64 mm .u64 = some 2) (h1 : Bd (val x - 2 * ((1 : Nat) : Rat) * p4) (p4 + 2 / 10 ^ 14)) : ∃ k c s, Trig x k c s (val x) := by
  have fx : Flt.fin x := word_fin false x hx
  have e1 : 2 * ((1 : Nat) : Rat) * p4 = 2 * p4 := by
    have : ((1 : Nat) : Rat) = 1 := rfl
    rw [this]; grind
  have h2 := h1
  rw [e1] at h2
  unfold Bd at h2
  have hp := Pc.p4_bd
  unfold p4 at h2 hp
  obtain ⟨z, hr, fz, az, nz⟩ := red_1 x fx (by grind) (by grind)
  obtain ⟨zs', zc'⟩ := zs nz az
  rw [← e1] at nz zs' zc'
  obtain ⟨zz, rc, hz, hE, fc, nc⟩ := sin_acc z fz az
  obtain ⟨zz2, rs, hz2, hE2, fs, ns⟩ := cos_acc z fz az
  have := inj_some hz hz2; subst this
  have hg : geB x 4737786807993761792 = false := by
    cases e : geB x 4737786807993761792
    · rfl
    · have := (geB_iff fx cTHR.1).1 e
      rw [cTHR.2] at this
      exfalso; grind
  have he : eqB x 0 = false := by
    cases e : eqB x 0
    · rfl
    · have := (eqB_iff fx zero_fin.1).1 e
      rw [zero_fin.2] at this
      exfalso; grind
  have hl : ltB x 0 = false := by
    cases e : ltB x 0
    · rfl
    · have := (ltB_iff fx zero_fin.1).1 e
      rw [zero_fin.2] at this
      exfalso; grind
  have lc := lipN zs' nc
  have ls := lipN zc' ns
  have bc : rc < 2 ^ 64 := by obtain ⟨_, _, _, _, _, _, _, _, _, _, _, _, _, _, _, _, _, _, _, _, _, _, _, _, h⟩ := hE; exact bits_lt h
  have bs : rs < 2 ^ 64 := by obtain ⟨_, _, _, _, _, _, _, _, _, _, _, _, _, _, _, _, _, _, _, _, _, _, _, _, _, _, _, _, h⟩ := hE2; exact bits_lt h
  exact ⟨1, negB rc, rs, ⟨by decide, (negB_val bc fc).1, fs, h1, by rw [(negB_val bc fc).2]; exact lc.2, ls.1, fun w hT => cos_2 x mm z zz rc w hx hT hg hm hj hr hz hE, fun w hT => sin_2 x mm z zz rs w hx hT hg hm hj hr hz hE2 he hl⟩⟩
theorem trig_3 (x mm : Nat) (hx : x < top) (h0 : 0 < val x) (h63 : val x ≤ 63 / 10) (hm : floatBits .mul .f64 x 4608412980311869571 = some mm) (hj : floatToIntVal .f64 mm .u64 = some 3) (h1 : Bd (val x - 2 * ((2 : Nat) : Rat) * p4) (p4 + 2 / 10 ^ 14)) : ∃ k c s, Trig x k c s (val x) := by
  have fx : Flt.fin x := word_fin false x hx
  have e1 : 2 * ((2 : Nat) : Rat) * p4 = 4 * p4 := by
    have : ((2 : Nat) : Rat) = 2 := rfl
    rw [this]; grind
  have h2 := h1
  rw [e1] at h2
  unfold Bd at h2
  have hp := Pc.p4_bd
  unfold p4 at h2 hp
  obtain ⟨z, hr, fz, az, nz⟩ := red_2 x fx (by grind) (by grind)
  obtain ⟨zs', zc'⟩ := zs nz az
  rw [← e1] at nz zs' zc'
  obtain ⟨zz, rc, hz, hE, fc, nc⟩ := cos_acc z fz az
  obtain ⟨zz2, rs, hz2, hE2, fs, ns⟩ := sin_acc z fz az
  have := inj_some hz hz2; subst this
  have hg : geB x 4737786807993761792 = false := by
    cases e : geB x 4737786807993761792
    · rfl
    · have := (geB_iff fx cTHR.1).1 e
      rw [cTHR.2] at this
      exfalso; grind
  have he : eqB x 0 = false := by
    cases e : eqB x 0
    · rfl
    · have := (eqB_iff fx zero_fin.1).1 e
      rw [zero_fin.2] at this
      exfalso; grind
  have hl : ltB x 0 = false := by
    cases e : ltB x 0
    · rfl
    · have := (ltB_iff fx zero_fin.1).1 e
      rw [zero_fin.2] at this
      exfalso; grind
  have lc := lipN zc' nc
  have ls := lipN zs' ns
  have bc : rc < 2 ^ 64 := by obtain ⟨_, _, _, _, _, _, _, _, _, _, _, _, _, _, _, _, _, _, _, _, _, _, _, _, _, _, _, _, h⟩ := hE; exact bits_lt h
  have bs : rs < 2 ^ 64 := by obtain ⟨_, _, _, _, _, _, _, _, _, _, _, _, _, _, _, _, _, _, _, _, _, _, _, _, h⟩ := hE2; exact bits_lt h
  exact ⟨2, negB rc, negB rs, ⟨by decide, (negB_val bc fc).1, (negB_val bs fs).1, h1, by rw [(negB_val bc fc).2]; exact lc.2, by rw [(negB_val bs fs).2]; exact ls.2, fun w hT => cos_3 x mm z zz rc w hx hT hg hm hj hr hz hE, fun w hT => sin_3 x mm z zz rs w hx hT hg hm hj hr hz hE2 he hl⟩⟩
theorem trig_4 (x mm : Nat) (hx : x < top) (h0 : 0 < val x) (h63 : val x ≤ 63 / 10) (hm : floatBits .mul .f64 x 4608412980311869571 = some mm) (hj : floatToIntVal .f64 mm .u64 = some 4) (h1 : Bd (val x - 2 * ((2 : Nat) : Rat) * p4) (p4 + 2 / 10 ^ 14)) : ∃ k c s, Trig x k c s (val x) := by
  have fx : Flt.fin x := word_fin false x hx
  have e1 : 2 * ((2 : Nat) : Rat) * p4 = 4 * p4 := by
    have : ((2 : Nat) : Rat) = 2 := rfl
    rw [this]; grind
  have h2 := h1
  rw [e1] at h2
  unfold Bd at h2
  have hp := Pc.p4_bd
  unfold p4 at h2 hp
  obtain ⟨z, hr, fz, az, nz⟩ := red_2 x fx (by grind) (by grind)
  obtain ⟨zs', zc'⟩ := zs nz az
  rw [← e1] at nz zs' zc'
  obtain ⟨zz, rc, hz, hE, fc, nc⟩ := cos_acc z fz az
  obtain ⟨zz2, rs, hz2, hE2, fs, ns⟩ := sin_acc z fz az
  have := inj_some hz hz2; subst this
  have hg : geB x 4737786807993761792 = false := by
    cases e : geB x 4737786807993761792
    · rfl
    · have := (geB_iff fx cTHR.1).1 e
      rw [cTHR.2] at this
      exfalso; grind
  have he : eqB x 0 = false := by
    cases e : eqB x 0
    · rfl
    · have := (eqB_iff fx zero_fin.1).1 e
      rw [zero_fin.2] at this
      exfalso; grind
  have hl : ltB x 0 = false := by
    cases e : ltB x 0
    · rfl
    · have := (ltB_iff fx zero_fin.1).1 e
      rw [zero_fin.2] at this
      exfalso; grind
  have lc := lipN zc' nc
  have ls := lipN zs' ns
  have bc : rc < 2 ^ 64 := by obtain ⟨_, _, _, _, _, _, _, _, _, _, _, _, _, _, _, _, _, _, _, _, _, _, _, _, _, _, _, _, h⟩ := hE; exact bits_lt h
  have bs : rs < 2 ^ 64 := by obtain ⟨_, _, _, _, _, _, _, _, _, _, _, _, _, _, _, _, _, _, _, _, _, _, _, _, h⟩ := hE2; exact bits_lt h
  exact ⟨2, negB rc, negB rs, ⟨by decide, (negB_val bc fc).1, (negB_val bs fs).1, h1, by rw [(negB_val bc fc).2]; exact lc.2, by rw [(negB_val bs fs).2]; exact ls.2, fun w hT => cos_4 x mm z zz rc w hx hT hg hm hj hr hz hE, fun w hT => sin_4 x mm z zz rs w hx hT hg hm hj hr hz hE2 he hl⟩⟩
theorem trig_5 (x mm : Nat) (hx : x < top) (h0 : 0 < val x) (h63 : val x ≤ 63 / 10) (hm : floatBits .mul .f64 x 4608412980311869571 = some mm) (hj : floatToIntVal .f64 mm .u64 = some 5) (h1 : Bd (val x - 2 * ((3 : Nat) : Rat) * p4) (p4 + 2 / 10 ^ 14)) : ∃ k c s, Trig x k c s (val x) := by
  have fx : Flt.fin x := word_fin false x hx
  have e1 : 2 * ((3 : Nat) : Rat) * p4 = 6 * p4 := by
    have : ((3 : Nat) : Rat) = 3 := rfl
    rw [this]; grind
  have h2 := h1
  rw [e1] at h2
  unfold Bd at h2
  have hp := Pc.p4_bd
  unfold p4 at h2 hp
  obtain ⟨z, hr, fz, az, nz⟩ := red_3 x fx (by grind) (by grind)
  obtain ⟨zs', zc'⟩ := zs nz az
  rw [← e1] at nz zs' zc'
  obtain ⟨zz, rc, hz, hE, fc, nc⟩ := sin_acc z fz az
  obtain ⟨zz2, rs, hz2, hE2, fs, ns⟩ := cos_acc z fz az
  have := inj_some hz hz2; subst this
  have hg : geB x 4737786807993761792 = false := by
    cases e : geB x 4737786807993761792
    · rfl
    · have := (geB_iff fx cTHR.1).1 e
      rw [cTHR.2] at this
      exfalso; grind
  have he : eqB x 0 = false := by
    cases e : eqB x 0
    · rfl
    · have := (eqB_iff fx zero_fin.1).1 e
      rw [zero_fin.2] at this
      exfalso; grind
  have hl : ltB x 0 = false := by
    cases e : ltB x 0
    · rfl
    · have := (ltB_iff fx zero_fin.1).1 e
      rw [zero_fin.2] at this
      exfalso; grind
  have lc := lipN zs' nc
  have ls := lipN zc' ns
  have bc : rc < 2 ^ 64 := by obtain ⟨_, _, _, _, _, _, _, _, _, _, _, _, _, _, _, _, _, _, _, _, _, _, _, _, h⟩ := hE; exact bits_lt h
  have bs : rs < 2 ^ 64 := by obtain ⟨_, _, _, _, _, _, _, _, _, _, _, _, _, _, _, _, _, _, _, _, _, _, _, _, _, _, _, _, h⟩ := hE2; exact bits_lt h
  exact ⟨3, rc, negB rs, ⟨by decide, fc, (negB_val bs fs).1, h1, lc.1, by rw [(negB_val bs fs).2]; exact ls.2, fun w hT => cos_5 x mm z zz rc w hx hT hg hm hj hr hz hE, fun w hT => sin_5 x mm z zz rs w hx hT hg hm hj hr hz hE2 he hl⟩⟩
theorem trig_6 (x mm : Nat) (hx : x < top) (h0 : 0 < val x) (h63 : val x ≤ 63 / 10) (hm : floatBits .mul .f64 x 4608412980311869571 = some mm) (hj : floatToIntVal .f64 mm .u64 = some 6) (h1 : Bd (val x - 2 * ((3 : Nat) : Rat) * p4) (p4 + 2 / 10 ^ 14)) : ∃ k c s, Trig x k c s (val x) := by
  have fx : Flt.fin x := word_fin false x hx
  have e1 : 2 * ((3 : Nat) : Rat) * p4 = 6 * p4 := by
    have : ((3 : Nat) : Rat) = 3 := rfl
    rw [this]; grind
  have h2 := h1
  rw [e1] at h2
  unfold Bd at h2
  have hp := Pc.p4_bd
  unfold p4 at h2 hp
  obtain ⟨z, hr, fz, az, nz⟩ := red_3 x fx (by grind) (by grind)
  obtain ⟨zs', zc'⟩ := zs nz az
  rw [← e1] at nz zs' zc'
  obtain ⟨zz, rc, hz, hE, fc, nc⟩ := sin_acc z fz az
  obtain ⟨zz2, rs, hz2, hE2, fs, ns⟩ := cos_acc z fz az
  have := inj_some hz hz2; subst this
  have hg : geB x 4737786807993761792 = false := by
    cases e : geB x 4737786807993761792
    · rfl
    · have := (geB_iff fx cTHR.1).1 e
      rw [cTHR.2] at this
      exfalso; grind
  have he : eqB x 0 = false := by
    cases e : eqB x 0
    · rfl
    · have := (eqB_iff fx zero_fin.1).1 e
      rw [zero_fin.2] at this
      exfalso; grind
  have hl : ltB x 0 = false := by
    cases e : ltB x 0
    · rfl
    · have := (ltB_iff fx zero_fin.1).1 e
      rw [zero_fin.2] at this
      exfalso; grind
  have lc := lipN zs' nc
  have ls := lipN zc' ns
  have bc : rc < 2 ^ 64 := by obtain ⟨_, _, _, _, _, _, _, _, _, _, _, _, _, _, _, _, _, _, _, _, _, _, _, _, h⟩ := hE; exact bits_lt h
  have bs : rs < 2 ^ 64 := by obtain ⟨_, _, _, _, _, _, _, _, _, _, _, _, _, _, _, _, _, _, _, _, _, _, _, _, _, _, _, _, h⟩ := hE2; exact bits_lt h
  exact ⟨3, rc, negB rs, ⟨by decide, fc, (negB_val bs fs).1, h1, lc.1, by rw [(negB_val bs fs).2]; exact ls.2, fun w hT => cos_6 x mm z zz rc w hx hT hg hm hj hr hz hE, fun w hT => sin_6 x mm z zz rs w hx hT hg hm hj hr hz hE2 he hl⟩⟩
theorem trig_7 (x mm : Nat) (hx : x < top) (h0 : 0 < val x) (h63 : val x ≤ 63 / 10) (hm : floatBits .mul .f64 x 4608412980311869571 = some mm) (hj : floatToIntVal .f64 mm .u64 = some 7) (h1 : Bd (val x - 2 * ((4 : Nat) : Rat) * p4) (p4 + 2 / 10 ^ 14)) : ∃ k c s, Trig x k c s (val x) := by
  have fx : Flt.fin x := word_fin false x hx
  have e1 : 2 * ((4 : Nat) : Rat) * p4 = 8 * p4 := by
    have : ((4 : Nat) : Rat) = 4 := rfl
    rw [this]; grind
  have h2 := h1
  rw [e1] at h2
  unfold Bd at h2
  have hp := Pc.p4_bd
  unfold p4 at h2 hp
  obtain ⟨z, hr, fz, az, nz⟩ := red_4 x fx (by grind) (by grind)
  obtain ⟨zs', zc'⟩ := zs nz az
  rw [← e1] at nz zs' zc'
  obtain ⟨zz, rc, hz, hE, fc, nc⟩ := cos_acc z fz az
  obtain ⟨zz2, rs, hz2, hE2, fs, ns⟩ := sin_acc z fz az
  have := inj_some hz hz2; subst this
  have hg : geB x 4737786807993761792 = false := by
    cases e : geB x 4737786807993761792
    · rfl
    · have := (geB_iff fx cTHR.1).1 e
      rw [cTHR.2] at this
      exfalso; grind
  have he : eqB x 0 = false := by
    cases e : eqB x 0
    · rfl
    · have := (eqB_iff fx zero_fin.1).1 e
      rw [zero_fin.2] at this
      exfalso; grind
  have hl : ltB x 0 = false := by
    cases e : ltB x 0
    · rfl
    · have := (ltB_iff fx zero_fin.1).1 e
      rw [zero_fin.2] at this
      exfalso; grind
  have lc := lipN zc' nc
  have ls := lipN zs' ns
  have bc : rc < 2 ^ 64 := by obtain ⟨_, _, _, _, _, _, _, _, _, _, _, _, _, _, _, _, _, _, _, _, _, _, _, _, _, _, _, _, h⟩ := hE; exact bits_lt h
  have bs : rs < 2 ^ 64 := by obtain ⟨_, _, _, _, _, _, _, _, _, _, _, _, _, _, _, _, _, _, _, _, _, _, _, _, h⟩ := hE2; exact bits_lt h
  exact ⟨4, rc, rs, ⟨by decide, fc, fs, h1, lc.1, ls.1, fun w hT => cos_7 x mm z zz rc w hx hT hg hm hj hr hz hE, fun w hT => sin_7 x mm z zz rs w hx hT hg hm hj hr hz hE2 he hl⟩⟩
theorem trig_8 (x mm : Nat) (hx : x < top) (h0 : 0 < val x) (h63 : val x ≤ 63 / 10) (hm : floatBits .mul .f64 x 4608412980311869571 = some mm) (hj : floatToIntVal .f64 mm .u64 = some 8) (h1 : Bd (val x - 2 * ((4 : Nat) : Rat) * p4) (p4 + 2 / 10 ^ 14)) : ∃ k c s, Trig x k c s (val x) := by
  have fx : Flt.fin x := word_fin false x hx
  have e1 : 2 * ((4 : Nat) : Rat) * p4 = 8 * p4 := by
    have : ((4 : Nat) : Rat) = 4 := rfl
    rw [this]; grind
  have h2 := h1
  rw [e1] at h2
  unfold Bd at h2
  have hp := Pc.p4_bd
  unfold p4 at h2 hp
  obtain ⟨z, hr, fz, az, nz⟩ := red_4 x fx (by grind) (by grind)
  obtain ⟨zs', zc'⟩ := zs nz az
  rw [← e1] at nz zs' zc'
  obtain ⟨zz, rc, hz, hE, fc, nc⟩ := cos_acc z fz az
  obtain ⟨zz2, rs, hz2, hE2, fs, ns⟩ := sin_acc z fz az
  have := inj_some hz hz2; subst this
  have hg : geB x 4737786807993761792 = false := by
    cases e : geB x 4737786807993761792
    · rfl
    · have := (geB_iff fx cTHR.1).1 e
      rw [cTHR.2] at this
      exfalso; grind
  have he : eqB x 0 = false := by
    cases e : eqB x 0
    · rfl
    · have := (eqB_iff fx zero_fin.1).1 e
      rw [zero_fin.2] at this
      exfalso; grind
  have hl : ltB x 0 = false := by
    cases e : ltB x 0
    · rfl
    · have := (ltB_iff fx zero_fin.1).1 e
      rw [zero_fin.2] at this
      exfalso; grind
  have lc := lipN zc' nc
  have ls := lipN zs' ns
  have bc : rc < 2 ^ 64 := by obtain ⟨_, _, _, _, _, _, _, _, _, _, _, _, _, _, _, _, _, _, _, _, _, _, _, _, _, _, _, _, h⟩ := hE; exact bits_lt h
  have bs : rs < 2 ^ 64 := by obtain ⟨_, _, _, _, _, _, _, _, _, _, _, _, _, _, _, _, _, _, _, _, _, _, _, _, h⟩ := hE2; exact bits_lt h
  exact ⟨4, rc, rs, ⟨by decide, fc, fs, h1, lc.1, ls.1, fun w hT => cos_8 x mm z zz rc w hx hT hg hm hj hr hz hE, fun w hT => sin_8 x mm z zz rs w hx hT hg hm hj hr hz hE2 he hl⟩⟩
theorem mm_ex (x : Nat) (hx : x < top) (h0 : 0 ≤ val x) (h63 : val x ≤ 63 / 10) : ∃ mm j : Nat, j ≤ 8 ∧ floatBits .mul .f64 x 4608412980311869571 = some mm ∧ floatToIntVal .f64 mm .u64 = some (j : Int) ∧ (j : Rat) ≤ val x * (5734161139222659 / 4503599627370496) + 1 / 10 ^ 14 ∧ val x * (5734161139222659 / 4503599627370496) ≤ (j : Rat) + 1 + 1 / 10 ^ 14 := by
  have fx : Flt.fin x := word_fin false x hx
  obtain ⟨mm, H⟩ := mul_b fx c4pi.1 (A := 63 / 10) (B := 13 / 10) (by unfold Abs; constructor <;> grind) (by rw [c4pi.2]; unfold Abs; constructor <;> grind) (by grind)
  obtain ⟨m2, hm2, -, mono⟩ := mul_mono x 4608412980311869571 fx c4pi.1 (by
    have : Abs (val x * val 4608412980311869571) (63 / 10 * (13 / 10)) := abs_mul (by unfold Abs; constructor <;> grind) (by rw [c4pi.2]; unfold Abs; constructor <;> grind)
    exact abs_le this (Rat.le_of_lt (small_lt (by grind))))
  have := inj_some H.bits hm2; subst this
  have p0 := (mono 0 zero_fin.1).2
  rw [zero_fin.2, c4pi.2] at p0
  have p1 := p0 (by grind)
  have nn := H.near
  rw [c4pi.2] at nn
  have er9 : er (63 / 10 * (13 / 10)) ≤ 1 / 10 ^ 14 := by unfold er; decide +kernel
  unfold Near at nn
  obtain ⟨j, hj, ej, j1, j2⟩ := toInt_ex H.fin p1 (by grind)
  exact ⟨mm, j, hj, H.bits, ej, by grind, by grind⟩
theorem trig_ex (x : Nat) (hx : x < top) (h0 : 0 < val x) (h63 : val x ≤ 63 / 10) : ∃ k c s, Trig x k c s (val x) := by
  obtain ⟨mm, j, hj, hm, ej, j1, j2⟩ := mm_ex x hx (Rat.le_of_lt h0) h63
  have hc : j = 0 ∨ j = 1 ∨ j = 2 ∨ j = 3 ∨ j = 4 ∨ j = 5 ∨ j = 6 ∨ j = 7 ∨ j = 8 := by omega
  rcases hc with rfl | rfl | rfl | rfl | rfl | rfl | rfl | rfl | rfl
  · have ej' : ((0 : Nat) : Rat) = 0 := rfl
    rw [ej'] at j1 j2
    have ek' : ((0 : Nat) : Rat) = 0 := rfl
    exact trig_0 x mm hx h0 h63 hm ej (by rw [ek']; unfold Bd p4; constructor <;> grind)
  · have ej' : ((1 : Nat) : Rat) = 1 := rfl
    rw [ej'] at j1 j2
    have ek' : ((1 : Nat) : Rat) = 1 := rfl
    exact trig_1 x mm hx h0 h63 hm ej (by rw [ek']; unfold Bd p4; constructor <;> grind)
  · have ej' : ((2 : Nat) : Rat) = 2 := rfl
    rw [ej'] at j1 j2
    have ek' : ((1 : Nat) : Rat) = 1 := rfl
    exact trig_2 x mm hx h0 h63 hm ej (by rw [ek']; unfold Bd p4; constructor <;> grind)
  · have ej' : ((3 : Nat) : Rat) = 3 := rfl
    rw [ej'] at j1 j2
    have ek' : ((2 : Nat) : Rat) = 2 := rfl
    exact trig_3 x mm hx h0 h63 hm ej (by rw [ek']; unfold Bd p4; constructor <;> grind)
  · have ej' : ((4 : Nat) : Rat) = 4 := rfl
    rw [ej'] at j1 j2
    have ek' : ((2 : Nat) : Rat) = 2 := rfl
    exact trig_4 x mm hx h0 h63 hm ej (by rw [ek']; unfold Bd p4; constructor <;> grind)
  · have ej' : ((5 : Nat) : Rat) = 5 := rfl
    rw [ej'] at j1 j2
    have ek' : ((3 : Nat) : Rat) = 3 := rfl
    exact trig_5 x mm hx h0 h63 hm ej (by rw [ek']; unfold Bd p4; constructor <;> grind)
  · have ej' : ((6 : Nat) : Rat) = 6 := rfl
    rw [ej'] at j1 j2
    have ek' : ((3 : Nat) : Rat) = 3 := rfl
    exact trig_6 x mm hx h0 h63 hm ej (by rw [ek']; unfold Bd p4; constructor <;> grind)
  · have ej' : ((7 : Nat) : Rat) = 7 := rfl
    rw [ej'] at j1 j2
    have ek' : ((4 : Nat) : Rat) = 4 := rfl
    exact trig_7 x mm hx h0 h63 hm ej (by rw [ek']; unfold Bd p4; constructor <;> grind)
  · have ej' : ((8 : Nat) : Rat) = 8 := rfl
    rw [ej'] at j1 j2
    have ek' : ((4 : Nat) : Rat) = 4 := rfl
    exact trig_8 x mm hx h0 h63 hm ej (by rw [ek']; unfold Bd p4; constructor <;> grind)
theorem trig_zero (s : Bool) : ∃ k c sn, Trig (Flt.F.word s 0) k c sn 0 := by
  have hx : 0 < top := by decide
  obtain ⟨mm, j, hj, hm, ej, j1, j2⟩ := mm_ex 0 hx (by rw [zero_fin.2]; exact Rat.le_refl) (by rw [zero_fin.2]; decide +kernel)
  rw [zero_fin.2] at j1
  have j0 : j = 0 := by
    have c : ((j : Nat) : Rat) < 1 := by grind
    have : j < 1 := by exact_mod_cast c
    omega
  subst j0
  obtain ⟨z, hr, fz, az, nz⟩ := red_0 0 zero_fin.1 (by rw [zero_fin.2]; decide +kernel) (by rw [zero_fin.2]; decide +kernel)
  obtain ⟨zz, rc, hz, hE, fc, nc⟩ := cos_acc z fz az
  rw [zero_fin.2] at nz
  obtain ⟨zs', zc'⟩ := zs nz az
  have lc := lipN zc' nc
  have hg : geB 0 4737786807993761792 = false := by decide +kernel
  have k0 : ((0 : Nat) : Rat) = 0 := rfl
  have e0 : (0 : Rat) - 2 * ((0 : Nat) : Rat) * p4 = 0 := by rw [k0]; grind
  have e1 : (0 : Rat) - 0 * p4 = 0 := by grind
  rw [e1] at lc
  refine ⟨0, rc, Flt.F.word s 0, ⟨by decide, fc, (word_zero s).1, ?_, ?_, ?_, fun w hT => cos_z s 0 mm z zz rc w hx rfl hT hg hm ej hr hz hE, fun w hT => sin_z s w⟩⟩
  · rw [e0]; have := Pc.p4_bd; unfold Bd; constructor <;> grind
  · rw [e0]; exact lc.1
  · rw [e0, (word_zero s).2]
    show Near 0 (sinP 0) _
    have : sinP 0 = 0 := by unfold sinP; exact Rat.zero_mul _
    rw [this]
    unfold Near; constructor <;> decide +kernel
end Go.Proofs.YtkbgkogfjfojgaaDoor

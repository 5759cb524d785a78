/- The law FnXyzToLabNeutralAxis in numbers. -/
import Derived.Test.YtpjbhbbhkhfiaaaLbw
set_option linter.unusedSimpArgs false
set_option linter.unusedVariables false
set_option maxRecDepth 100000
namespace Go.Proofs.Ytpjbhbbhkhfiaaa
open Go.RowKit
open Flt Ieee
theorem kk4576259018578689238 : fin 4576259018578689238 ∧ val 4576259018578689238 = (2552698398817899 / 288230376151711744) := const_val (by decide +kernel) (by decide +kernel)
theorem kk4651156694067819558 : fin 4651156694067819558 ∧ val 4651156694067819558 = (3972739124419091 / 4398046511104) := const_val (by decide +kernel) (by decide +kernel)
theorem kk4625196817309499392 : fin 4625196817309499392 ∧ val 4625196817309499392 = (16) := const_val (by decide +kernel) (by decide +kernel)
theorem kk4637863191261478912 : fin 4637863191261478912 ∧ val 4637863191261478912 = (116) := const_val (by decide +kernel) (by decide +kernel)
theorem kk4606860822843362778 : fin 4606860822843362778 ∧ val 4606860822843362778 = (4342801649043181 / 4503599627370496) := const_val (by decide +kernel) (by decide +kernel)
theorem kk4605607101106091996 : fin 4605607101106091996 ∧ val 4605607101106091996 = (1857970390203895 / 2251799813685248) := const_val (by decide +kernel) (by decide +kernel)
theorem kk4647503709213818880 : fin 4647503709213818880 ∧ val 4647503709213818880 = (500) := const_val (by decide +kernel) (by decide +kernel)
theorem kk4641240890982006784 : fin 4641240890982006784 ∧ val 4641240890982006784 = (200) := const_val (by decide +kernel) (by decide +kernel)
theorem kk4607182418800017408 : fin 4607182418800017408 ∧ val 4607182418800017408 = (1) := const_val (by decide +kernel) (by decide +kernel)
theorem kk4472406533629990549 : fin 4472406533629990549 ∧ val 4472406533629990549 = (4835703278458517 / 4835703278458516698824704) := const_val (by decide +kernel) (by decide +kernel)
theorem kk4699454808992514048 : fin 4699454808992514048 ∧ val 4699454808992514048 = (1560896) := const_val (by decide +kernel) (by decide +kernel)
theorem kk4564841185158361188 : fin 4564841185158361188 ∧ val 4564841185158361188 = (1799590564854809 / 1152921504606846976) := const_val (by decide +kernel) (by decide +kernel)
theorem lohiS {x : Nat} {S l u E e : Rat} (h : Ts x S l u E e) (hS : 0 < S) : l * S ≤ val x ∧ val x ≤ u * S := by
  obtain ⟨_, v, q, h1, h2, _⟩ := h
  rw [q]
  exact ⟨Rat.mul_le_mul_of_nonneg_right h1 (Rat.le_of_lt hS), Rat.mul_le_mul_of_nonneg_right h2 (Rat.le_of_lt hS)⟩
theorem abs_le_abs {d t : Nat} (wd : d < 2 ^ 64) (fd : fin d) (ft : fin t) {T : Rat} (h1 : -T ≤ val d) (h2 : val d ≤ T) (h3 : T ≤ val t) : leB (absB d) t = true := by
  obtain ⟨fa, -, -, h⟩ := absB_val wd fd
  refine (leB_iff fa ft).2 ?_
  rcases h with h | h <;> rw [h] <;> grind
theorem abs_not_gt {d t : Nat} (wd : d < 2 ^ 64) (fd : fin d) (ft : fin t) {T : Rat} (h1 : -T ≤ val d) (h2 : val d ≤ T) (h3 : T ≤ val t) : gtB (absB d) t = false := by
  obtain ⟨fa, -, -, h⟩ := absB_val wd fd
  cases c : gtB (absB d) t
  · rfl
  · have := (gtB_iff fa ft).1 c
    rcases h with h | h <;> grind
/-- a known word at a scale of at least one -/
theorem cstS {x : Nat} {c S : Rat} (h : fin x ∧ val x = c) (h0 : 0 ≤ c) (hS : 1 ≤ S) : Ts x S 0 c (c / S) 0 := by
  have e : c / S * S = c := Rat.div_mul_cancel (by grind)
  refine ⟨h.1, c / S, by rw [h.2, e], le_div (by grind) (by grind), div_le (by grind) ?_, by unfold Near; constructor <;> grind⟩
  have := Rat.mul_le_mul_of_nonneg_left hS h0
  grind
/-- what a value of f is good for -/
def Fp (S t c : Rat) : Prop := ((2552698398817899 / 288230376151711744) < t ∧ 0 < c ∧ Near (c * c * c) t (t / 10 ^ 13)) ∨ (t ≤ (2552698398817899 / 288230376151711744) ∧ Near c (((3972739124419091 / 4398046511104) * t + 16) / 116) (3 / 100000000000000 * S))
theorem cb_le {S t t' c c' : Rat} (hS : 1 ≤ S) (h0 : 0 < c) (h1 : 1 / 5 ≤ c') (a1 : c * c * c ≤ t * (1 + 1 / 10000000000000)) (a2 : t' * (1 - 1 / 10000000000000) ≤ c' * c' * c') (b1 : t ≤ t' + 6 / 1000000000000000 * S) (b2 : t ≤ 10001 / 10000 * S) (b3 : t' ≤ 10001 / 10000 * S) : c ≤ c' + 18 / 10000000000000 * S := by
  rcases Rat.le_total (a := c) (b := c') with k | k
  · grind
  · have k1 : 0 ≤ c - c' := by grind
    have k2 := Rat.mul_le_mul_of_nonneg_left h1 (show 0 ≤ c' by grind)
    have k3 := Rat.mul_le_mul_of_nonneg_left k (show 0 ≤ c' by grind)
    have k4 := Rat.mul_le_mul_of_nonneg_left k (show 0 ≤ c by grind)
    have q : 3 / 25 ≤ c * c + c * c' + c' * c' := by grind
    have k5 := Rat.mul_le_mul_of_nonneg_left q k1
    have e : (c - c') * (c * c + c * c' + c' * c') = c * c * c - c' * c' * c' := by grind
    rw [e] at k5
    grind
theorem fp_cb {S t c : Rat} (h : Near (c * c * c) t (t / 10 ^ 13)) (h0 : 0 < c) (ht : (2552698398817899 / 288230376151711744) < t) : c * c * c ≤ t * (1 + 1 / 10000000000000) ∧ t * (1 - 1 / 10000000000000) ≤ c * c * c ∧ 1 / 5 ≤ c := by
  have ex : t / 10 ^ 13 = t * (1 / 10000000000000) := by grind
  rw [ex] at h
  unfold Near at h
  have k : t * (1 - 1 / 10000000000000) ≤ c * c * c := by grind
  refine ⟨by grind, k, cube_lo (C := 87 / 10000) h0 (by decide +kernel) (by grind) (by decide +kernel)⟩
theorem fp_mix {S s t t' c c' : Rat} (hS : 1 ≤ S) (hS2 : S ≤ 2000000000) (hs : S = 1 + s ∨ S = 1 - s) (ht : Near t s (3 / 1000000000000000 * S)) (ht' : Near t' s (3 / 1000000000000000 * S)) (h0 : 0 < c) (hc : Near (c * c * c) t (t / 10 ^ 13)) (e1 : (2552698398817899 / 288230376151711744) < t) (e2 : t' ≤ (2552698398817899 / 288230376151711744)) (hc' : Near c' (((3972739124419091 / 4398046511104) * t' + 16) / 116) (3 / 100000000000000 * S)) : Near c c' (18 / 10000000000000 * S) := by
  have S1 : S ≤ 102 / 100 := by unfold Near at ht ht'; rcases hs with h | h <;> grind
  have t1 : t ≤ (2552698398817899 / 288230376151711744) + 7 / 1000000000000000 := by unfold Near at ht ht'; grind
  have t2 : (2552698398817899 / 288230376151711744) - 7 / 1000000000000000 ≤ t' := by unfold Near at ht ht'; grind
  obtain ⟨a1, a2, a3⟩ := fp_cb (S := S) hc h0 e1
  have c1 : c ≤ 6 / 29 + 2 / 10000000000000 := cube_hi (C := (2552698398817899 / 288230376151711744) + 9 / 1000000000000000) h0 (by decide +kernel) (by grind) (by decide +kernel)
  have c2 : 6 / 29 - 2 / 10000000000000 ≤ c := cube_lo (C := (2552698398817899 / 288230376151711744) - 2 / 1000000000000000) h0 (by decide +kernel) (by grind) (by decide +kernel)
  unfold Near at hc' ⊢
  constructor <;> grind
theorem fp_close {S s t t' c c' : Rat} (hS : 1 ≤ S) (hS2 : S ≤ 2000000000) (hs : S = 1 + s ∨ S = 1 - s) (ht : Near t s (3 / 1000000000000000 * S)) (ht' : Near t' s (3 / 1000000000000000 * S)) (h : Fp S t c) (h' : Fp S t' c') : Near c c' (18 / 10000000000000 * S) ∧ Abs c (8 * S) := by
  have tb : Abs t (10001 / 10000 * S) := by unfold Near at ht; unfold Abs; rcases hs with k | k <;> (constructor <;> grind)
  have tb' : Abs t' (10001 / 10000 * S) := by unfold Near at ht'; unfold Abs; rcases hs with k | k <;> (constructor <;> grind)
  have hA : Abs c (8 * S) := by
    rcases h with ⟨h1, h2, h3⟩ | ⟨h1, h3⟩
    · obtain ⟨a1, a2, a3⟩ := fp_cb (S := S) h3 h2 h1
      refine ⟨by grind, cube_hi (C := 2 * S) h2 (by grind) (by unfold Abs at tb; grind) ?_⟩
      have k1 := Rat.mul_le_mul_of_nonneg_left hS (show 0 ≤ S by grind)
      have k2 := Rat.mul_le_mul_of_nonneg_left hS (show 0 ≤ S * S by grind)
      grind
    · unfold Near at h3; unfold Abs at *; constructor <;> grind
  refine ⟨?_, hA⟩
  rcases h with ⟨h1, h2, h3⟩ | ⟨h1, h3⟩ <;> rcases h' with ⟨h1', h2', h3'⟩ | ⟨h1', h3'⟩
  · obtain ⟨a1, a2, a3⟩ := fp_cb (S := S) h3 h2 h1
    obtain ⟨b1, b2, b3⟩ := fp_cb (S := S) h3' h2' h1'
    unfold Near at ht ht'
    unfold Abs at tb tb'
    have k1 := cb_le hS h2 b3 a1 b2 (by grind) tb.2 tb'.2
    have k2 := cb_le hS h2' a3 b1 a2 (by grind) tb'.2 tb.2
    exact ⟨by grind, by grind⟩
  · exact fp_mix hS hS2 hs ht ht' h2 h3 h1 h1' h3'
  · have := fp_mix hS hS2 hs ht' ht h2' h3' h1' h1 h3
    unfold Near at *; constructor <;> grind
  · unfold Near at *; constructor <;> grind
theorem div_one' (S : Rat) : S / 1 = S := by
  have := Rat.div_mul_cancel (a := S) (b := 1) (by decide +kernel)
  rw [Rat.mul_one] at this; exact this
theorem fz_ex {S : Rat} (t : Nat) (wt : t < 2 ^ 64) (ft : fin t) (hS : 1 ≤ S) (hS2 : S ≤ 2000000000) (tb : Abs (val t) (11 / 10 * S)) : ∃ c, FzP t c ∧ fin c ∧ c < 2 ^ 64 ∧ Fp S (val t) (val c) := by
  have sS : Sc S := ⟨Rat.le_trans (by decide +kernel) hS, Rat.le_trans hS2 (by decide +kernel)⟩
  have sS' : Sc (S * 1) := by rw [Rat.mul_one]; exact sS
  have sS'' : Sc (S / 1) := by rw [div_one']; exact sS
  cases b : gtB t 4576259018578689238
  · have ht : val t ≤ (2552698398817899 / 288230376151711744) := by
      rcases Rat.le_total (a := val t) (b := (2552698398817899 / 288230376151711744)) with k | k
      · exact k
      · by_cases k' : val t = (2552698398817899 / 288230376151711744)
        · grind
        · have := (gtB_iff ft kk4576259018578689238.1).2 (by rw [kk4576259018578689238.2]; grind)
          rw [this] at b; cases b
    have e : val t / S * S = val t := Rat.div_mul_cancel (by grind)
    have Tt : Ts t S (-(11 / 10)) (11 / 10) (val t / S) 0 := ⟨ft, val t / S, e.symm, le_div (by grind) (by unfold Abs at tb; grind), div_le (by grind) (by unfold Abs at tb; grind), by unfold Near; constructor <;> grind⟩
    obtain ⟨p, hp, Tp⟩ := mul_s (-(62101620370370433051 / 62500000000000000)) (62101620370370433051 / 62500000000000000) (11 / 10) (9032963 / 10000) (496813 / 500) (9937 / 10000000000000000) sS' Tt (Ts.const kk4651156694067819558) (by constructor <;> decide +kernel)
    replace Tp := Tp.sc (S' := S) (by rw [Rat.mul_one])
    obtain ⟨q, hq, Tq⟩ := add_s (-(993625925925927938817 / 1000000000000000000)) (50481296296296396941 / 50000000000000000) (1010) (501 / 250000000000000) sS Tp (cstS kk4625196817309499392 (by decide +kernel) hS) (by constructor <;> decide +kernel)
    obtain ⟨c, hc, Tc⟩ := div_s (-(53535879629629792481 / 6250000000000000000)) (870367177522352541767 / 100000000000000000000) (87037 / 10000) (1299 / 50000000000000000) sS'' (by decide +kernel) Tq (Ts.const kk4637863191261478912) (by constructor <;> decide +kernel)
    replace Tc := Tc.sc (S' := S) (by rw [div_one'])
    refine ⟨c, Or.inr ⟨b, p, q, hp, hq, hc⟩, Tc.fin, bits_lt hc, Or.inr ⟨ht, ?_⟩⟩
    obtain ⟨_, v, qv, _, _, nv⟩ := Tc
    have e2 : (val t / S * (3972739124419091 / 4398046511104) + 16 / S) / 116 * S = ((3972739124419091 / 4398046511104) * val t + 16) / 116 := by
      have e3 : (16 : Rat) / S * S = 16 := Rat.div_mul_cancel (by grind)
      generalize (16 : Rat) / S = y at *
      generalize val t / S = z at *
      rw [← e]
      have : (16 : Rat) = y * S := e3.symm
      grind
    rw [qv, ← e2]
    unfold Near at nv ⊢
    have k1 := Rat.mul_le_mul_of_nonneg_right nv.1 (show 0 ≤ S by grind)
    have k2 := Rat.mul_le_mul_of_nonneg_right nv.2 (show 0 ≤ S by grind)
    generalize (val t / S * (3972739124419091 / 4398046511104) + 16 / S) / 116 = y at *
    constructor <;> grind
  · have ht := (gtB_iff ft kk4576259018578689238.1).1 b
    rw [kk4576259018578689238.2] at ht
    have u1 : 1 / 10 ^ 30 ≤ val t := Rat.le_trans (by decide +kernel) (Rat.le_of_lt ht)
    have u2 : val t ≤ 10 ^ 30 := by
      have : (11 : Rat) / 10 * 2000000000 ≤ 10 ^ 30 := by decide +kernel
      unfold Abs at tb; grind
    obtain ⟨c, C, fc, pc, nc⟩ := cbrt_ex t wt ft u1 u2
    refine ⟨c, Or.inl ⟨b, C⟩, fc, ?_, Or.inl ⟨ht, pc, nc⟩⟩
    obtain ⟨_, _, _, _, _, _, _, _, _, _, _, _, _, _, _, _, _, _, hB, _⟩ := C
    exact bits_lt hB.hy
def CloseA (s sa r0 : Nat) : Prop := ∃ t7 q1 q2 g1 g2 d, floatBits .add .f64 r0 4625196817309499392 = some t7 ∧ floatBits .mul .f64 t7 t7 = some q1 ∧ floatBits .mul .f64 q1 t7 = some q2 ∧ floatBits .mul .f64 4699454808992514048 s = some g1 ∧ floatBits .mul .f64 4564841185158361188 s = some g2 ∧ floatBits .sub .f64 q2 g1 = some d ∧ leB (absB d) g2 = true
def CloseB (s sa r0 : Nat) : Prop := ∃ g1 g2 g3 g4 d, floatBits .mul .f64 4651156694067819558 s = some g1 ∧ floatBits .mul .f64 4651156694067819558 sa = some g2 ∧ floatBits .add .f64 4607182418800017408 g2 = some g3 ∧ floatBits .mul .f64 4472406533629990549 g3 = some g4 ∧ floatBits .sub .f64 r0 g1 = some d ∧ leB (absB d) g4 = true
theorem close_a {X : Rat} (s sa c u0 r0 : Nat) (fs : fin s) (hX : val s = X) (hE : (2552698398817899 / 288230376151711744) < X) (hX2 : X ≤ 2000000000) (fc : fin c) (pc : 0 < val c) (nc : Near (val c * val c * val c) X (X / 10 ^ 13)) (H1 : floatBits .mul .f64 c 4637863191261478912 = some u0) (H2 : floatBits .sub .f64 u0 4625196817309499392 = some r0) : CloseA s sa r0 := by
  obtain ⟨a1, a2, a3⟩ := fp_cb (S := 1) nc pc hE
  obtain ⟨C, hC⟩ : ∃ C, val c = C := ⟨_, rfl⟩
  rw [hC] at a1 a2 a3 pc
  have b1 : C ≤ 10000 := cube_hi (C := 3000000000) pc (by decide +kernel) (by grind) (by decide +kernel)
  have X0 : 0 < X := by grind
  have sC : Sc C := ⟨Rat.le_trans (by decide +kernel) a3, Rat.le_trans b1 (by decide +kernel)⟩
  have sC' : Sc (C * 1) := by rw [Rat.mul_one]; exact sC
  have sCC : Sc (C * C) := sc120 (sc_mul (Rat.le_trans (by decide +kernel) a3) (Rat.le_trans b1 (by decide +kernel)) (Rat.le_trans (by decide +kernel) a3) (Rat.le_trans b1 (by decide +kernel)))
  have z1 : (1 : Rat) / 10 ^ 250 ≤ 1 / 1000 := by decide +kernel
  have z2 : (3000000000 : Rat) ≤ 10 ^ 250 := by decide +kernel
  have sCCC : Sc (C * C * C) := ⟨by grind, by grind⟩
  have sX : Sc X := ⟨Rat.le_trans (by decide +kernel) (Rat.le_of_lt hE), Rat.le_trans hX2 (by decide +kernel)⟩
  have sX1 : Sc (1 * X) := by rw [Rat.one_mul]; exact sX
  clear z1 z2
  have Tc := Ts.self fc hC
  have TsX := Ts.self fs hX
  have e16 : (16 : Rat) / C * C = 16 := Rat.div_mul_cancel (by grind)
  have T16 : Ts 4625196817309499392 C 0 80 (16 / C) 0 := ⟨kk4625196817309499392.1, 16 / C, by rw [kk4625196817309499392.2, e16], le_div pc (by grind), div_le pc (by grind), by unfold Near; constructor <;> grind⟩
  obtain ⟨u0_, hu0_, Tu0⟩ := mul_s (115999999999999883999 / 1000000000000000000) (116000000000000116001 / 1000000000000000000) (1) (116) (116) (1161 / 10000000000000000) sC' Tc (Ts.const kk4637863191261478912) (by constructor <;> decide +kernel)
  replace Tu0 := Tu0.sc (S' := C) (by rw [Rat.mul_one])
  obtain ⟨r, hr, Tr⟩ := sub_s (359999999999997678989 / 10000000000000000000) (58000000000000116051 / 500000000000000000) (1161 / 10) (2323 / 10000000000000000) sC Tu0 T16 (by constructor <;> decide +kernel)
  obtain ⟨t7, ht7, Tt7⟩ := add_s (89999999999998929497 / 2500000000000000000) (196000000000000428203 / 1000000000000000000) (1961 / 10) (857 / 2000000000000000) sC Tr T16 (by constructor <;> decide +kernel)
  replace Tt7 := (Tt7.E (E' := 116) (by grind)).cut (l' := 1159 / 10) (u' := 1161 / 10) (by decide +kernel) (by decide +kernel)
  obtain ⟨q1, hq1, Tq1⟩ := mul_s (134328099999999865207 / 10000000000000000) (134792100000000134793 / 10000000000000000) (1161 / 10) (1161 / 10) (1347921 / 100) (113 / 1000000000000) sCC Tt7 Tt7 (by constructor <;> decide +kernel)
  obtain ⟨q2, hq2, Tq2⟩ := mul_s (155686267899999687281 / 100000000000000) (156493628100000312989 / 100000000000000) (673961 / 50) (1161 / 10) (1564938) (2047 / 100000000000) sCCC Tq1 Tt7 (by constructor <;> decide +kernel)
  have eR : C * C * C / X * X = C * C * C := Rat.div_mul_cancel (by grind)
  have R1 : 1 - 1 / 10000000000000 ≤ C * C * C / X := le_div X0 (by grind)
  have R2 : C * C * C / X ≤ 1 + 1 / 10000000000000 := div_le X0 (by grind)
  generalize hR : C * C * C / X = R at *
  have Tq2' := Tq2.re (S := X) (R := R) 1560000 1562000 (1 / 1000000) 2 eR.symm ⟨by grind, by grind⟩ (by decide +kernel) (by grind) (by grind)
  replace Tq2' := Tq2'.shift (E' := 1560896) (d := 1 / 1000000) (e' := 1 / 100000) (by unfold Near; constructor <;> grind) (by decide +kernel)
  obtain ⟨g1, hg1, Tg1⟩ := mul_s (15608959999999984391 / 10000000000000) (15608960000000015609 / 10000000000000) (1560896) (1) (1560896) (1561 / 1000000000000) sX1 (Ts.const kk4699454808992514048) TsX (by constructor <;> decide +kernel)
  replace Tg1 := Tg1.sc (S' := X) (by rw [Rat.one_mul])
  obtain ⟨g2, hg2, Tg2⟩ := mul_s (39022399999999960599 / 25000000000000000000000) (156089600000000154577 / 100000000000000000000000) (24389 / 15625000) (1) (24389 / 15625000) (1561 / 1000000000000000000000) sX1 (Ts.const kk4564841185158361188) TsX (by constructor <;> decide +kernel)
  replace Tg2 := Tg2.sc (S' := X) (by rw [Rat.one_mul])
  obtain ⟨d, hd, Td⟩ := sub_s (-(896000000001562005001 / 1000000000000000000)) (110400000000156200501 / 100000000000000000) (1105) (1001 / 100000000) sX Tq2' Tg1 (by constructor <;> decide +kernel)
  obtain ⟨i1, i2⟩ := lohiS ((Td.E (E' := 0) (by grind)).cut (l' := -(1 / 1000)) (u' := 1 / 1000) (by decide +kernel) (by decide +kernel)) X0
  obtain ⟨j1, j2⟩ := lohiS Tg2 X0
  have hru : u0_ = u0 := by rw [hu0_] at H1; exact Option.some.inj H1
  subst hru
  have hrr : r = r0 := by rw [hr] at H2; exact Option.some.inj H2
  subst hrr
  exact ⟨t7, q1, q2, g1, g2, d, ht7, hq1, hq2, hg1, hg2, hd, abs_le_abs (bits_lt hd) Td.fin Tg2.fin (T := 1 / 1000 * X) (by grind) (by grind) (by grind)⟩
theorem g3lo {p q : Rat} (h : p + q = 1) (h0 : 0 ≤ q) : 99 / 100 + (113 / 62500000000000) ≤ p + (3972739124419091 / 4398046511104) * q := by grind
theorem g3hi {p q : Rat} (h : p + q = 1) (h0 : q ≤ 1) : p + (3972739124419091 / 4398046511104) * q + (113 / 62500000000000) ≤ 1000 := by grind
theorem eB {v y z : Rat} (h1 : v ≤ ((3972739124419091 / 4398046511104) * z + y) / 116 + 3 / 100000000000000) (h2 : ((3972739124419091 / 4398046511104) * z + y) / 116 ≤ v + 3 / 100000000000000) : Near (v * 116 - y - (3972739124419091 / 4398046511104) * z) 0 (1 / 100000000000) := by
  unfold Near; constructor <;> grind
set_option maxHeartbeats 2000000 in
theorem lab_plain (s : Nat) (ws : s < 2 ^ 64) (h : (geB s (negB 4741671816366391296) && leB s 4741671816366391296) = true) :
    ∃ x z r0 r1 r2 t23 tol, floatBits .mul .f64 s 4606860822843362778 = some x ∧ floatBits .mul .f64 s 4605607101106091996 = some z ∧ LabP x s z r0 r1 r2 ∧ floatBits .add .f64 4607182418800017408 (absB s) = some t23 ∧ floatBits .mul .f64 4472406533629990549 t23 = some tol ∧ gtB (absB r1) tol = false ∧ gtB (absB r2) tol = false ∧
      ((gtB s 4576259018578689238 = true ∧ CloseA s (absB s) r0) ∨ (gtB s 4576259018578689238 = false ∧ CloseB s (absB s) r0)) := by
  rw [Bool.and_eq_true] at h
  have khi : fin 4741671816366391296 ∧ val 4741671816366391296 = 1000000000 := c1e9
  obtain ⟨kn1, kn2⟩ := negB_val (x := 4741671816366391296) (by decide) khi.1
  rw [khi.2] at kn2
  have fs := fin_of_between kn1 khi.1 h.1 h.2
  have k1 := (geB_iff fs kn1).1 h.1
  have k2 := (leB_iff fs khi.1).1 h.2
  rw [kn2] at k1
  rw [khi.2] at k2
  obtain ⟨fa, a0, a1, a2⟩ := absB_val ws fs
  obtain ⟨S, hSe⟩ : ∃ S, S = 1 + val (absB s) := ⟨_, rfl⟩
  have hs : S = 1 + val s ∨ S = 1 - val s := by rcases a2 with k | k <;> rw [k] at hSe <;> grind
  have hS : 1 ≤ S := by grind
  have hS2 : S ≤ 2000000000 := by rcases hs with k | k <;> grind
  have S0 : 0 < S := by grind
  have sS : Sc S := ⟨Rat.le_trans (by decide +kernel) hS, Rat.le_trans hS2 (by decide +kernel)⟩
  have sS' : Sc (S * 1) := by rw [Rat.mul_one]; exact sS
  have sS1 : Sc (1 * S) := by rw [Rat.one_mul]; exact sS
  have sS'' : Sc (S / 1) := by rw [div_one']; exact sS
  clear khi kn1 kn2 h k1 k2
  have e : val s / S * S = val s := Rat.div_mul_cancel (by grind)
  have eas : val (absB s) / S * S = val (absB s) := Rat.div_mul_cancel (by grind)
  have e1 : (1 : Rat) / S * S = 1 := Rat.div_mul_cancel (by grind)
  have e16 : (16 : Rat) / S * S = 16 := Rat.div_mul_cancel (by grind)
  have Ts_ : Ts s S (-1) 1 (val s / S) 0 := ⟨fs, val s / S, e.symm, le_div S0 (by unfold Abs at a1; grind), div_le S0 (by unfold Abs at a1; grind), by unfold Near; constructor <;> grind⟩
  have Tas : Ts (absB s) S 0 1 (val (absB s) / S) 0 := ⟨fa, val (absB s) / S, eas.symm, le_div S0 (by grind), div_le S0 (by grind), by unfold Near; constructor <;> grind⟩
  obtain ⟨x, hx, Tx⟩ := mul_s (-(241073919107392139627 / 250000000000000000000)) (241073919107392139627 / 250000000000000000000) (1) (9642957 / 10000000) (9642957 / 10000000) (9643 / 10000000000000000000) sS' Ts_ (Ts.const kk4606860822843362778) (by constructor <;> decide +kernel)
  replace Tx := Tx.sc (S' := S) (by rw [Rat.mul_one])
  obtain ⟨x1, hx1, Tx1⟩ := div_s (-(100000000000000200011 / 100000000000000000000)) (100000000000000200011 / 100000000000000000000) (10001 / 10000) (2001 / 1000000000000000000) sS'' (by decide +kernel) Tx (Ts.const kk4606860822843362778) (by constructor <;> decide +kernel)
  replace Tx1 := Tx1.sc (S' := S) (by rw [div_one'])
  obtain ⟨z, hz, Tz⟩ := mul_s (-(206276150627615268759 / 250000000000000000000)) (206276150627615268759 / 250000000000000000000) (1) (8251047 / 10000000) (8251047 / 10000000) (2063 / 2500000000000000000) sS' Ts_ (Ts.const kk4605607101106091996) (by constructor <;> decide +kernel)
  replace Tz := Tz.sc (S' := S) (by rw [Rat.mul_one])
  obtain ⟨z1, hz1, Tz1⟩ := div_s (-(100000000000000200011 / 100000000000000000000)) (100000000000000200011 / 100000000000000000000) (10001 / 10000) (2001 / 1000000000000000000) sS'' (by decide +kernel) Tz (Ts.const kk4605607101106091996) (by constructor <;> decide +kernel)
  replace Tz1 := Tz1.sc (S' := S) (by rw [div_one'])
  have toN : ∀ (y : Nat) (E : Rat) (l u e' : Rat), Ts y S l u E e' → E = val s / S → e' ≤ 3 / 1000000000000000 → Near (val y) (val s) (3 / 1000000000000000 * S) := fun y E l u e' T hE he => by
    obtain ⟨_, v, q, _, _, n⟩ := T
    rw [q, ← e, ← hE]
    unfold Near at n ⊢
    have k1 := Rat.mul_le_mul_of_nonneg_right n.1 (Rat.le_of_lt S0)
    have k2 := Rat.mul_le_mul_of_nonneg_right n.2 (Rat.le_of_lt S0)
    have k3 := Rat.mul_le_mul_of_nonneg_right he (Rat.le_of_lt S0)
    constructor <;> grind
  have nx := toN x1 _ _ _ _ Tx1 (by grind) (by decide +kernel)
  have nz := toN z1 _ _ _ _ Tz1 (by grind) (by decide +kernel)
  have ns : Near (val s) (val s) (3 / 1000000000000000 * S) := by unfold Near; constructor <;> grind
  clear toN
  have bnd : ∀ y : Rat, Near y (val s) (3 / 1000000000000000 * S) → Abs y (11 / 10 * S) := fun y h => by unfold Near at h; unfold Abs; rcases hs with k | k <;> (constructor <;> grind)
  obtain ⟨c0, F0, f0, w0, p0⟩ := fz_ex x1 (bits_lt hx1) Tx1.fin hS hS2 (bnd _ nx)
  obtain ⟨c1, F1, f1, w1, p1⟩ := fz_ex s ws fs hS hS2 (bnd _ ns)
  obtain ⟨c2, F2, f2, w2, p2⟩ := fz_ex z1 (bits_lt hz1) Tz1.fin hS hS2 (bnd _ nz)
  clear bnd
  obtain ⟨n01, A0⟩ := fp_close hS hS2 hs nx ns p0 p1
  obtain ⟨n12, A1⟩ := fp_close hS hS2 hs ns nz p1 p2
  obtain ⟨-, A2⟩ := fp_close hS hS2 hs nz ns p2 p1
  have E0 : val c0 / S * S = val c0 := Rat.div_mul_cancel (by grind)
  have Tc0 : Ts c0 S (-8) 8 (val c0 / S) 0 := ⟨f0, val c0 / S, E0.symm, le_div S0 (by unfold Abs at A0; grind), div_le S0 (by unfold Abs at A0; grind), by unfold Near; constructor <;> grind⟩
  have E1 : val c1 / S * S = val c1 := Rat.div_mul_cancel (by grind)
  have Tc1 : Ts c1 S (-8) 8 (val c1 / S) 0 := ⟨f1, val c1 / S, E1.symm, le_div S0 (by unfold Abs at A1; grind), div_le S0 (by unfold Abs at A1; grind), by unfold Near; constructor <;> grind⟩
  have E2 : val c2 / S * S = val c2 := Rat.div_mul_cancel (by grind)
  have Tc2 : Ts c2 S (-8) 8 (val c2 / S) 0 := ⟨f2, val c2 / S, E2.symm, le_div S0 (by unfold Abs at A2; grind), div_le S0 (by unfold Abs at A2; grind), by unfold Near; constructor <;> grind⟩
  have d01 : Near (val c0 / S) (val c1 / S) (18 / 10000000000000) := by
    unfold Near at n01 ⊢
    exact ⟨mul_le_cancel S0 (by rw [Rat.add_mul, E0, E1]; exact n01.1), mul_le_cancel S0 (by rw [Rat.add_mul, E0, E1]; exact n01.2)⟩
  have d12 : Near (val c1 / S) (val c2 / S) (18 / 10000000000000) := by
    unfold Near at n12 ⊢
    exact ⟨mul_le_cancel S0 (by rw [Rat.add_mul, E1, E2]; exact n12.1), mul_le_cancel S0 (by rw [Rat.add_mul, E1, E2]; exact n12.2)⟩
  have ea : 1 / S + val (absB s) / S = 1 := by
    have : (1 / S + val (absB s) / S - 1) * S = 0 := by grind
    rcases Rat.mul_eq_zero.1 this with k | k <;> grind
  unfold Near at d01 d12
  have ha0 : 0 ≤ val (absB s) / S := le_div S0 (by grind)
  have ha1 : val (absB s) / S ≤ 1 := div_le S0 (by grind)
  obtain ⟨u0, hu0, Tu0⟩ := mul_s (-(928000000000000928001 / 1000000000000000000)) (928000000000000928001 / 1000000000000000000) (8) (116) (928) (9281 / 10000000000000000) sS' Tc1 (Ts.const kk4637863191261478912) (by constructor <;> decide +kernel)
  replace Tu0 := Tu0.sc (S' := S) (by rw [Rat.mul_one])
  obtain ⟨r0, hr0, Tr0⟩ := sub_s (-(472000000000000936051 / 500000000000000000)) (464000000000000936051 / 500000000000000000) (9441 / 10) (1873 / 1000000000000000) sS Tu0 (cstS kk4625196817309499392 (by decide +kernel) hS) (by constructor <;> decide +kernel)
  obtain ⟨u1, hu1, Tu1⟩ := sub_s (-(160000000000000160001 / 10000000000000000000)) (160000000000000160001 / 10000000000000000000) (16) (1601 / 100000000000000000) sS Tc0 Tc1 (by constructor <;> decide +kernel)
  obtain ⟨u2, hu2, Tu2⟩ := sub_s (-(160000000000000160001 / 10000000000000000000)) (160000000000000160001 / 10000000000000000000) (16) (1601 / 100000000000000000) sS Tc1 Tc2 (by constructor <;> decide +kernel)
  replace Tu1 := Tu1.cut (l' := -(37 / 20000000000000)) (u' := 37 / 20000000000000) (by grind) (by grind)
  replace Tu2 := Tu2.cut (l' := -(37 / 20000000000000)) (u' := 37 / 20000000000000) (by grind) (by grind)
  obtain ⟨r1, hr1, Tr1⟩ := mul_s (-(925000000000000925001 / 1000000000000000000000000000000)) (925000000000000925001 / 1000000000000000000000000000000) (37 / 20000000000000) (500) (37 / 40000000000) (4003 / 500000000000000) sS' Tu1 (Ts.const kk4647503709213818880) (by constructor <;> decide +kernel)
  replace Tr1 := Tr1.sc (S' := S) (by rw [Rat.mul_one])
  obtain ⟨r2, hr2, Tr2⟩ := mul_s (-(370000000000000370001 / 1000000000000000000000000000000)) (370000000000000370001 / 1000000000000000000000000000000) (37 / 20000000000000) (200) (37 / 100000000000) (3203 / 1000000000000000) sS' Tu2 (Ts.const kk4641240890982006784) (by constructor <;> decide +kernel)
  replace Tr2 := Tr2.sc (S' := S) (by rw [Rat.mul_one])
  obtain ⟨t23, ht23, Tt23⟩ := add_s (-(200000000000000000001 / 100000000000000000000000000000000000)) (200000000000000200001 / 100000000000000000000) (2) (2001 / 1000000000000000000) sS (cstS kk4607182418800017408 (by decide +kernel) hS) Tas (by constructor <;> decide +kernel)
  replace Tt23 := (Tt23.E (E' := 1) ea).cut (l' := 99 / 100) (u' := 101 / 100) (by decide +kernel) (by decide +kernel)
  obtain ⟨tol, htol, Ttol⟩ := mul_s (989999999999999051657 / 1000000000000000000000000000000) (101000000000000107291 / 100000000000000000000000000000) (10000001 / 10000000000000000) (101 / 100) (1010001 / 1000000000000000) (753 / 250000000000000000000000000) sS1 (Ts.const kk4472406533629990549) Tt23 (by constructor <;> decide +kernel)
  replace Ttol := Ttol.sc (S' := S) (by rw [Rat.one_mul])
  replace Ttol := (Ttol.E (E' := (4835703278458517 / 4835703278458516698824704)) (by grind)).cut (l' := 99 / 100000000000) (u' := 101 / 100000000000) (by decide +kernel) (by decide +kernel)
  obtain ⟨x_1, x_2⟩ := lohiS Tr1 S0
  obtain ⟨y_1, y_2⟩ := lohiS Tr2 S0
  obtain ⟨t_1, t_2⟩ := lohiS Ttol S0
  refine ⟨x, z, r0, r1, r2, t23, tol, hx, hz, ⟨x1, z1, c0, c1, c2, u0, u1, u2, hx1, hz1, F0, F1, F2, hu0, hr0, hu1, hr1, hu2, hr2⟩, ht23, htol, abs_not_gt (bits_lt hr1) Tr1.fin Ttol.fin (T := 95 / 100000000000 * S) (by grind) (by grind) (by grind), abs_not_gt (bits_lt hr2) Tr2.fin Ttol.fin (T := 95 / 100000000000 * S) (by grind) (by grind) (by grind), ?_⟩
  cases b : gtB s 4576259018578689238
  · right
    refine ⟨rfl, ?_⟩
    have ht : val s ≤ (2552698398817899 / 288230376151711744) := by
      rcases Rat.le_total (a := val s) (b := (2552698398817899 / 288230376151711744)) with k | k
      · exact k
      · by_cases k' : val s = (2552698398817899 / 288230376151711744)
        · grind
        · have := (gtB_iff fs kk4576259018578689238.1).2 (by rw [kk4576259018578689238.2]; grind)
          rw [this] at b; cases b
    have nc : Near (val c1 / S) (((3972739124419091 / 4398046511104) * (val s / S) + 16 / S) / 116) (3 / 100000000000000) := by
      rcases p1 with ⟨k, _⟩ | ⟨_, k⟩
      · grind
      · have e2 : ((3972739124419091 / 4398046511104) * (val s / S) + 16 / S) / 116 * S = ((3972739124419091 / 4398046511104) * val s + 16) / 116 := by
          generalize (16 : Rat) / S = y at *
          generalize val s / S = z' at *
          rw [← e]
          have : (16 : Rat) = y * S := e16.symm
          grind
        unfold Near at k ⊢
        exact ⟨mul_le_cancel S0 (by rw [Rat.add_mul, E1, e2]; exact k.1), mul_le_cancel S0 (by rw [Rat.add_mul, E1, e2]; exact k.2)⟩
    unfold Near at nc
    obtain ⟨g1, hg1, Tg1⟩ := mul_s (-(451648148148148604007 / 500000000000000000)) (451648148148148604007 / 500000000000000000) (9032963 / 10000) (1) (9032963 / 10000) (9033 / 10000000000000000) sS1 (Ts.const kk4651156694067819558) Ts_ (by constructor <;> decide +kernel)
    replace Tg1 := Tg1.sc (S' := S) (by rw [Rat.one_mul])
    obtain ⟨g2, hg2, Tg2⟩ := mul_s (-(903296300000000000001 / 1000000000000000000000000000000000)) (451648148148148604007 / 500000000000000000) (9032963 / 10000) (1) (9032963 / 10000) (9033 / 10000000000000000) sS1 (Ts.const kk4651156694067819558) Tas (by constructor <;> decide +kernel)
    replace Tg2 := Tg2.sc (S' := S) (by rw [Rat.one_mul])
    obtain ⟨g3, hg3, Tg3⟩ := add_s (-(180759630000000000001 / 100000000000000000000000000000000)) (180859259259259622463 / 200000000000000000) (9043 / 10) (113 / 62500000000000) sS (cstS kk4607182418800017408 (by decide +kernel) hS) Tg2 (by constructor <;> decide +kernel)
    replace Tg3 := Tg3.cut (l' := 99 / 100) (u' := 1000) (g3lo ea ha0) (g3hi ea ha1)
    obtain ⟨g4, hg4, Tg4⟩ := mul_s (494999999999500030329 / 500000000000000000000000000000) (100000000000000106229 / 100000000000000000000000000) (10000001 / 10000000000000000) (1000) (1000001 / 1000000000000) (2809 / 1000000000000000000000000) sS1 (Ts.const kk4472406533629990549) Tg3 (by constructor <;> decide +kernel)
    replace Tg4 := Tg4.sc (S' := S) (by rw [Rat.one_mul])
    obtain ⟨d, hd, Td⟩ := sub_s (-(46182407407407523203 / 25000000000000000)) (45782407407407523203 / 25000000000000000) (1848) (37 / 8000000000000) sS Tr0 Tg1 (by constructor <;> decide +kernel)
    have hd0 := (Td.shift (E' := 0) (d := 1 / 100000000000) (e' := 1 / 50000000000) (eB nc.1 nc.2) (by decide +kernel)).cut (l' := -(1 / 1000000000 * (98 / 100))) (u' := 1 / 1000000000 * (98 / 100)) (by decide +kernel) (by decide +kernel)
    obtain ⟨i1, i2⟩ := lohiS hd0 S0
    obtain ⟨j1, j2⟩ := lohiS Tg4 S0
    exact ⟨g1, g2, g3, g4, d, hg1, hg2, hg3, hg4, hd, abs_le_abs (bits_lt hd) Td.fin Tg4.fin (T := 1 / 1000000000 * (98 / 100) * S) (by grind) (by grind) (by grind)⟩
  · left
    refine ⟨rfl, ?_⟩
    have ht := (gtB_iff fs kk4576259018578689238.1).1 b
    rw [kk4576259018578689238.2] at ht
    rcases p1 with ⟨_, k1, k2⟩ | ⟨k, _⟩
    · exact close_a s _ c1 u0 r0 fs rfl ht (by rcases hs with k | k <;> grind) f1 k1 k2 hu0 hr0
    · grind
end Go.Proofs.Ytpjbhbbhkhfiaaa

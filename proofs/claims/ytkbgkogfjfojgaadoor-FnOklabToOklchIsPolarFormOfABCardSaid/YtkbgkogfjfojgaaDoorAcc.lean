/- Accuracy of the arc tangent's quotient, of sine's and cosine's polynomials, and of the argument's reduction. -/
import Derived.Test.YtkbgkogfjfojgaaDoorSnw
import Derived.Test.YtkbgkogfjfojgaaDoorPc
import Derived.Test.YtkbgkogfjfojgaaDoorTs
set_option linter.unusedSimpArgs false
set_option linter.unusedVariables false
set_option maxRecDepth 100000
namespace Go.Proofs.YtkbgkogfjfojgaaDoor
open Ieee Go
open Flt hiding F
open Pc (sinP cosP atanP S1 C1 nR qR homR nzI qzI snI csI kG kK p4)
theorem kS0 : Flt.fin 4460209587652500685 ∧ val 4460209587652500685 = (6149556183080141 / 38685626227668133590597632) := const_val (by decide +kernel) (by decide +kernel)
theorem kS1 : Flt.fin 13716528389658582877 ∧ val 13716528389658582877 = (-(7571123942793053 / 302231454903657293676544)) := const_val (by decide +kernel) (by decide +kernel)
theorem kS2 : Flt.fin 4523617212962785441 ∧ val 4523617212962785441 = (6506786710177953 / 2361183241434822606848) := const_val (by decide +kernel) (by decide +kernel)
theorem kS3 : Flt.fin 13774824197404483331 ∧ val 13774824197404483331 = (-(7320136532877059 / 36893488147419103232)) := const_val (by decide +kernel) (by decide +kernel)
theorem kS4 : Flt.fin 4575957461383575504 ∧ val 4575957461383575504 = (300239975157629 / 36028797018963968) := const_val (by decide +kernel) (by decide +kernel)
theorem kS5 : Flt.fin 13818544856648471880 ∧ val 13818544856648471880 = (-(750599937895081 / 4503599627370496)) := const_val (by decide +kernel) (by decide +kernel)
theorem kC0 : Flt.fin 13666448263388469915 ∧ val 13666448263388469915 = (-(7030593573755547 / 618970019642690137449562112)) := const_val (by decide +kernel) (by decide +kernel)
theorem kC1 : Flt.fin 4477121864728985349 ∧ val 4477121864728985349 = (5047434750082821 / 2417851639229258349412352) := const_val (by decide +kernel) (by decide +kernel)
theorem kC2 : Flt.fin 13732177093698800582 ∧ val 13732177093698800582 = (-(2602714736764387 / 9444732965739290427392)) := const_val (by decide +kernel) (by decide +kernel)
theorem kC3 : Flt.fin 4537941361668146421 ∧ val 4537941361668146421 = (7320136533427445 / 295147905179352825856) := const_val (by decide +kernel) (by decide +kernel)
theorem kC4 : Flt.fin 13787419979223748497 ∧ val 13787419979223748497 = (-(6405119470030737 / 4611686018427387904)) := const_val (by decide +kernel) (by decide +kernel)
theorem kC5 : Flt.fin 4586165620538955083 ∧ val 4586165620538955083 = (6004799503160651 / 144115188075855872) := const_val (by decide +kernel) (by decide +kernel)
theorem kHalf : Flt.fin 4602678819172646912 ∧ val 4602678819172646912 = (1 / 2) := const_val (by decide +kernel) (by decide +kernel)
theorem kPA : Flt.fin 4605249456957292544 ∧ val 4605249456957292544 = (6588397 / 8388608) := const_val (by decide +kernel) (by decide +kernel)
theorem kPB : Flt.fin 4495793288086814720 ∧ val 4495793288086814720 = (1328173 / 35184372088832) := const_val (by decide +kernel) (by decide +kernel)
theorem kPC : Flt.fin 4388835458085048688 ∧ val 4388835458085048688 = (427063790847255 / 158456325028528675187087900672) := const_val (by decide +kernel) (by decide +kernel)
theorem kY0 : Flt.fin 0 ∧ val 0 = (0) := const_val (by decide +kernel) (by decide +kernel)
theorem kY1 : Flt.fin 4611686018427387904 ∧ val 4611686018427387904 = (2) := const_val (by decide +kernel) (by decide +kernel)
theorem kY2 : Flt.fin 4616189618054758400 ∧ val 4616189618054758400 = (4) := const_val (by decide +kernel) (by decide +kernel)
theorem kY3 : Flt.fin 4618441417868443648 ∧ val 4618441417868443648 = (6) := const_val (by decide +kernel) (by decide +kernel)
theorem kY4 : Flt.fin 4620693217682128896 ∧ val 4620693217682128896 = (8) := const_val (by decide +kernel) (by decide +kernel)
theorem sc1 : Sc (1 * 1) := by rw [Rat.mul_one]; exact Sc.one
theorem sc1' : Sc (1 / 1) := by rw [show (1 : Rat) / 1 = 1 by decide +kernel]; exact Sc.one
theorem opow : ∀ n : Nat, (1 : Rat) ^ n = 1
  | 0 => Rat.pow_zero _
  | n + 1 => by rw [Rat.pow_succ, opow n, Rat.mul_one]
theorem sq0 (a : Rat) : 0 ≤ a * a := Pc.sq_nn a
theorem abs_sq {a A : Rat} (h : Abs a A) : a * a ≤ A * A := by have := abs_mul h h; unfold Abs at this; exact this.2
theorem qR_eq (q : Rat) : qR q = kK * (((((q + (1749258957297679 / 70368744177664)) * q + (5806371718625829 / 35184372088832)) * q + (7615324151266875 / 17592186044416)) * q + (4269539107284213 / 8796093022208)) * q + (1711285677807803 / 8796093022208)) := by
  simp only [qR, qzI, homR, kK, opow, Rat.mul_one, List.length, Rat.mul_zero, Rat.add_zero]
  grind
theorem nR_eq (q : Rat) : nR q = kK * ((((((q + (1749258957297679 / 70368744177664)) * q + (5806371718625829 / 35184372088832)) * q + (7615324151266875 / 17592186044416)) * q + (4269539107284213 / 8796093022208)) * q + (1711285677807803 / 8796093022208)) + q * (((((-1970461881518437 / 2251799813685248) * q + (-2273971201753149 / 140737488355328)) * q + (-5278258023629427 / 70368744177664)) * q + (-8647380534934053 / 70368744177664)) * q + (-2281714237077063 / 35184372088832))) := by
  simp only [nR, nzI, homR, kK, opow, Rat.mul_one, List.length, Rat.mul_zero, Rat.add_zero]
  grind
theorem atan_eq (x : Rat) (h : 0 < qR (x * x)) : (fun q => x * (q * (((((-1970461881518437 / 2251799813685248) * q + (-2273971201753149 / 140737488355328)) * q + (-5278258023629427 / 70368744177664)) * q + (-8647380534934053 / 70368744177664)) * q + (-2281714237077063 / 35184372088832)) / (((((q + (1749258957297679 / 70368744177664)) * q + (5806371718625829 / 35184372088832)) * q + (7615324151266875 / 17592186044416)) * q + (4269539107284213 / 8796093022208)) * q + (1711285677807803 / 8796093022208))) + x) (x * x) = atanP x := by
  have h1 := qR_eq (x * x)
  have h2 := nR_eq (x * x)
  unfold atanP
  show x * _ + x = _
  have hk : 0 < kK := by unfold kK; decide +kernel
  have e : ∀ a b n d : Rat, 0 < d → d = kK * b → n = kK * (b + x * x * a) → x * (x * x * a / b) + x = x * (n / d) := fun a b n d hd e1 e2 => by
    have hb : b ≠ 0 := by intro hb; rw [hb] at e1; grind
    have e3 : n / d * d = n := Rat.div_mul_cancel (by grind)
    have e4 : x * x * a / b * b = x * x * a := Rat.div_mul_cancel hb
    have e5 : (n / d - (x * x * a / b + 1)) * d = 0 := by grind
    rcases Rat.mul_eq_zero.1 e5 with k | k
    · grind
    · grind
  exact e _ _ _ _ h h1 h2
theorem inj_some {a b : Nat} {o : Option Nat} (h1 : o = some a) (h2 : o = some b) : a = b := by rw [h1] at h2; exact Option.some.inj h2
theorem eta_rel {B : Rat} (h : 1 / 10 ^ 290 ≤ B) : eta ≤ B / 10 ^ 25 := by
  have h1 := eta_small
  have h2 : (1 : Rat) / 10 ^ 320 ≤ 1 / 10 ^ 290 / 10 ^ 25 := by decide +kernel
  have h3 : (1 : Rat) / 10 ^ 290 / 10 ^ 25 ≤ B / 10 ^ 25 := by grind
  grind
theorem big300 {B : Rat} (h : B ≤ 10 ^ 290) : B < two 1022 := by
  have h1 := t300
  have h2 : (10 : Rat) ^ 290 ≤ 10 ^ 300 := by decide +kernel
  grind
theorem mul_rel {x y r : Nat} (fx : Flt.fin x) (fy : Flt.fin y) (B : Rat) (hB : Abs (val x * val y) B) (h1 : 1 / 10 ^ 290 ≤ B) (h2 : B ≤ 10 ^ 290) (h : floatBits .mul .f64 x y = some r) : Flt.fin r ∧ Near (val r) (val x * val y) (B * (12 / 10 ^ 17)) := by
  have hb := big300 h2
  obtain ⟨r', e, f, n⟩ := mul_near x y fx fy B hB.1 hB.2 (by have := t1022_lt; grind)
  have := inj_some h e; subst this
  exact ⟨f, near_mono n (by have := eta_rel h1; rw [uu_val]; grind)⟩
theorem add_rel {x y r : Nat} (fx : Flt.fin x) (fy : Flt.fin y) (B : Rat) (hB : Abs (val x + val y) B) (h1 : 1 / 10 ^ 290 ≤ B) (h2 : B ≤ 10 ^ 290) (h : floatBits .add .f64 x y = some r) : Flt.fin r ∧ Near (val r) (val x + val y) (B * (12 / 10 ^ 17)) := by
  have hb := big300 h2
  obtain ⟨r', e, f, n⟩ := add_near x y fx fy B hB.1 hB.2 (by have := t1022_lt; grind)
  have := inj_some h e; subst this
  exact ⟨f, near_mono n (by have := eta_rel h1; rw [uu_val]; grind)⟩
theorem sub_rel {x y r : Nat} (fx : Flt.fin x) (fy : Flt.fin y) (B : Rat) (hB : Abs (val x - val y) B) (h1 : 1 / 10 ^ 290 ≤ B) (h2 : B ≤ 10 ^ 290) (h : floatBits .sub .f64 x y = some r) : Flt.fin r ∧ Near (val r) (val x - val y) (B * (12 / 10 ^ 17)) := by
  have hb := big300 h2
  obtain ⟨r', e, f, n⟩ := sub_near x y fx fy B hB.1 hB.2 (by have := t1022_lt; grind)
  have := inj_some h e; subst this
  exact ⟨f, near_mono n (by have := eta_rel h1; rw [uu_val]; grind)⟩
theorem quo_rel {x y r : Nat} (fx : Flt.fin x) (fy : Flt.fin y) (h0 : val y ≠ 0) (B : Rat) (hB : Abs (val x / val y) B) (h1 : 1 / 10 ^ 290 ≤ B) (h2 : B ≤ 10 ^ 290) (h : floatBits .quo .f64 x y = some r) : Flt.fin r ∧ Near (val r) (val x / val y) (B * (34 / 10 ^ 17)) := by
  have hb := big300 h2
  obtain ⟨r', e, f, n⟩ := div_near x y fx fy h0 B hB.1 hB.2 hb
  have := inj_some h e; subst this
  exact ⟨f, near_mono n (by have := eta_rel h1; rw [uu_val]; grind)⟩
theorem xat_acc (x : Nat) (fx : Flt.fin x) (h : Abs (val x) (661 / 1000)) : ∃ r, XatP x r ∧ Flt.fin r ∧ Near (val r) (atanP (val x)) (1 / 200000000000000) ∧ (1 / 10 ^ 250 ≤ val x → val x / 4 ≤ val r) := by
  have Tx : Ts x 1 (-(661 / 1000)) (661 / 1000) (val x) 0 := Ts.own fx h.1 h.2
  have q0 := sq0 (val x)
  have q1 := abs_sq h
  obtain ⟨z, hz, Tz⟩ := mul_s (-(218460500000000218461 / 500000000000000000000)) (218460500000000218461 / 500000000000000000000) (661 / 1000) (661 / 1000) (436921 / 1000000) (437 / 1000000000000000000) sc1 Tx Tx (by constructor <;> decide +kernel)
  replace Tz := Tz.sc (S' := 1) (by decide +kernel)
  replace Tz := Tz.cut (l' := (-(1 / 100000000000000))) (u' := (11 / 25)) (by grind) (by grind)
  obtain ⟨n0, hn0, Tn0⟩ := mul_s (-(77005355680280831177 / 200000000000000000000)) (913563540003190388313 / 100000000000000000000000000000000000) (8750609 / 10000000) (11 / 25) (962567 / 2500000) (307 / 400000000000000000) sc1 (Ts.const kP0) Tz (by constructor <;> decide +kernel)
  replace Tn0 := Tn0.sc (S' := 1) (by decide +kernel)
  obtain ⟨a1, ha1, Ta1⟩ := add_s (-(165425639657350728903 / 10000000000000000000)) (-(161575371873336264987 / 10000000000000000000)) (331 / 20) (433 / 25000000000000000) Sc.one Tn0 (Ts.const kP1) (by constructor <;> decide +kernel)
  obtain ⟨n1, hn1, Tn1⟩ := mul_s (-(727872814492343935047 / 100000000000000000000)) (21588046332168841113 / 125000000000000000000000000000000) (1654257 / 100000) (11 / 25) (7278731 / 1000000) (2213 / 100000000000000000) sc1 Ta1 Tz (by constructor <;> decide +kernel)
  replace Tn1 := Tn1.sc (S' := 1) (by decide +kernel)
  obtain ⟨a2, ha2, Ta2⟩ := add_s (-(164574572136141146957 / 2000000000000000000)) (-(187521394807866992109 / 2500000000000000000)) (8229 / 100) (209 / 2000000000000000) Sc.one Tn1 (Ts.const kP2) (by constructor <;> decide +kernel)
  obtain ⟨n2, hn2, Tn2⟩ := mul_s (-(36206405869951088537 / 1000000000000000000)) (429539635340352867393 / 500000000000000000000000000000000) (8228729 / 100000) (11 / 25) (3620641 / 100000) (591 / 5000000000000000) sc1 Ta2 Tz (by constructor <;> decide +kernel)
  replace Tn2 := Tn2.sc (S' := 1) (by decide +kernel)
  obtain ⟨a3, ha3, Ta3⟩ := add_s (-(159093074318964859941 / 1000000000000000000)) (-(122886668449012594123 / 1000000000000000000)) (1591 / 10) (1387 / 5000000000000000) Sc.one Tn2 (Ts.const kP3) (by constructor <;> decide +kernel)
  obtain ⟨n3, hn3, Tn3⟩ := mul_s (-(700009527003446083751 / 10000000000000000000)) (83046585659482429971 / 50000000000000000000000000000000) (1590931 / 10000) (11 / 25) (7000097 / 100000) (327 / 1250000000000000) sc1 Ta3 Tz (by constructor <;> decide +kernel)
  replace Tn3 := Tn3.sc (S' := 1) (by decide +kernel)
  obtain ⟨a4, ha4, Ta4⟩ := add_s (-(26970234349952997979 / 200000000000000000)) (-(16212554762354612697 / 250000000000000000)) (1349 / 10) (1983 / 5000000000000000) Sc.one Tn3 (Ts.const kP4) (by constructor <;> decide +kernel)
  obtain ⟨nn, hnn, Tnn⟩ := mul_s (-(148336288924741637221 / 2500000000000000000)) (17598078093720623737 / 12500000000000000000000000000000) (11 / 25) (84282 / 625) (5933453 / 100000) (183 / 625000000000000) sc1 Tz Ta4 (by constructor <;> decide +kernel)
  replace Tnn := Tnn.sc (S' := 1) (by decide +kernel)
  obtain ⟨b0, hb0, Tb0⟩ := add_s (124292324507115133939 / 5000000000000000000) (252984649014230873879 / 10000000000000000000) (253 / 10) (1287 / 50000000000000000) Sc.one Tz (Ts.const kQ0) (by constructor <;> decide +kernel)
  obtain ⟨m1, hm1, Tm1⟩ := mul_s (-(6602899475355771847 / 25000000000000000000000000000000)) (111313245566261695821 / 10000000000000000000) (2529847 / 100000) (11 / 25) (1113133 / 100000) (419 / 12500000000000000) sc1 Tb0 Tz (by constructor <;> decide +kernel)
  replace Tm1 := Tm1.sc (S' := 1) (by decide +kernel)
  obtain ⟨b1, hb1, Tb1⟩ := add_s (82513504915849203879 / 500000000000000000) (176158334388325193857 / 1000000000000000000) (881 / 5) (1049 / 5000000000000000) Sc.one Tm1 (Ts.const kQ1) (by constructor <;> decide +kernel)
  obtain ⟨m2, hm2, Tm2⟩ := mul_s (-(91954652194162596929 / 50000000000000000000000000000000)) (193774167827157907017 / 2500000000000000000) (110099 / 625) (11 / 25) (775097 / 10000) (2469 / 10000000000000000) sc1 Tb1 Tz (by constructor <;> decide +kernel)
  replace Tm2 := Tm2.sc (S' := 1) (by decide +kernel)
  obtain ⟨b2, hb2, Tb2⟩ := add_s (216440530245643960463 / 500000000000000000) (510390727622153943627 / 1000000000000000000) (2552 / 5) (3787 / 5000000000000000) Sc.one Tm2 (Ts.const kQ2) (by constructor <;> decide +kernel)
  obtain ⟨m3, hm3, Tm3⟩ := mul_s (-(133211981905538485907 / 25000000000000000000000000000000)) (28071490019218494971 / 125000000000000000) (1275977 / 2500) (11 / 25) (56143 / 250) (7809 / 10000000000000000) sc1 Tb2 Tz (by constructor <;> decide +kernel)
  replace Tm3 := Tm3.sc (S' := 1) (by decide +kernel)
  obtain ⟨b3, hb3, Tb3⟩ := add_s (24269519981795382847 / 50000000000000000) (177490579947415591297 / 250000000000000000) (710) (1491 / 1000000000000000) Sc.one Tm3 (Ts.const kQ3) (by constructor <;> decide +kernel)
  obtain ⟨m4, hm4, Tm4⟩ := mul_s (-(741200669789662365189 / 100000000000000000000000000000000)) (312383420707451753067 / 1000000000000000000) (887453 / 1250) (11 / 25) (624767 / 2000) (1279 / 1000000000000000) sc1 Tb3 Tz (by constructor <;> decide +kernel)
  replace Tm4 := Tm4.sc (S' := 1) (by decide +kernel)
  obtain ⟨b4, hb4, Tb4⟩ := add_s (194550657148253474551 / 1000000000000000000) (253467038927856826813 / 500000000000000000) (507) (1787 / 1000000000000000) Sc.one Tm4 (Ts.const kQ4) (by constructor <;> decide +kernel)
  obtain ⟨t, ht, Tt⟩ := div_s (-(304982344648067788091 / 1000000000000000000000)) (37706946713196104837 / 5000000000000000000000000000000000) (30499 / 100000) (1153 / 250000000000000000) sc1' (by decide) Tnn Tb4 (by constructor <;> decide +kernel)
  replace Tt := Tt.sc (S' := 1) (by decide +kernel)
  obtain ⟨u, hu, Tu⟩ := mul_s (-(100796664906186504761 / 500000000000000000000)) (100796664906186504761 / 500000000000000000000) (661 / 1000) (95307 / 312500) (1007967 / 5000000) (3251 / 1000000000000000000) sc1 Tx Tt (by constructor <;> decide +kernel)
  replace Tu := Tu.sc (S' := 1) (by decide +kernel)
  obtain ⟨r, hr, Tr⟩ := add_s (-(862593329812373872123 / 1000000000000000000000)) (862593329812373872123 / 1000000000000000000000) (4313 / 5000) (2057 / 500000000000000000) Sc.one Tu Tx (by constructor <;> decide +kernel)
  have hq := (Pc.fit_u (val x) h).1
  have he := atan_eq (val x) hq
  have hn := Tr.near
  have t1 := Tt.lo
  have t2 := Tt.hi
  simp only [] at he
  refine ⟨r, ⟨z, n0, a1, n1, a2, n2, a3, n3, a4, nn, b0, m1, b1, m2, b2, m3, b3, m4, b4, t, u, hz, hn0, ha1, hn1, ha2, hn2, ha3, hn3, ha4, hnn, hb0, hm1, hb1, hm2, hb2, hm3, hb3, hm4, hb4, ht, hu, hr⟩, Tr.fin, near_mono (by rw [← he]; exact hn) (by decide +kernel), fun hx => ?_⟩
  have x0 : 0 < val x := by have : (0 : Rat) < 1 / 10 ^ 250 := by decide +kernel
                            grind
  have m1 := Rat.mul_nonneg (Rat.le_of_lt x0) (show 0 ≤ val t + 1 / 2 by grind)
  have m2 := Rat.mul_nonneg (Rat.le_of_lt x0) (show 0 ≤ 1 / 2 - val t by grind)
  have lo : (1 : Rat) / 10 ^ 290 ≤ 1 / 10 ^ 250 := by decide +kernel
  have hi : (661 : Rat) / 1000 + 661 / 1000 ≤ 10 ^ 290 := by decide +kernel
  have h2 := h.2
  have U := (mul_rel fx Tt.fin (val x) ⟨by grind, by grind⟩ (by grind) (by grind) hu).2
  have R := (add_rel Tu.fin fx (val x + val x) (by unfold Near at U; constructor <;> grind) (by grind) (by grind) hr).2
  unfold Near at U R
  grind
theorem sinP_eq (w q : Rat) (h : q = w * w) : w + w * q * ((((((6149556183080141 / 38685626227668133590597632) * q + (-(7571123942793053 / 302231454903657293676544))) * q + (6506786710177953 / 2361183241434822606848)) * q + (-(7320136532877059 / 36893488147419103232))) * q + (300239975157629 / 36028797018963968)) * q + (-(750599937895081 / 4503599627370496))) = sinP w := by
  have e : ∀ q : Rat, kG * (1 + q * ((((((6149556183080141 / 38685626227668133590597632) * q + (-(7571123942793053 / 302231454903657293676544))) * q + (6506786710177953 / 2361183241434822606848)) * q + (-(7320136532877059 / 36893488147419103232))) * q + (300239975157629 / 36028797018963968)) * q + (-(750599937895081 / 4503599627370496)))) = homR snI q 1 := fun q => by
    simp only [snI, homR, kG, opow, Rat.mul_one, List.length, Rat.mul_zero, Rat.add_zero]
    grind
  have hk : kG ≠ 0 := by unfold kG; decide +kernel
  unfold sinP S1
  rw [← h, ← e q, Rat.mul_comm kG, Rat.mul_div_cancel hk]
  grind
theorem cosP_eq (w q : Rat) (h : q = w * w) : (1 - 1 / 2 * q) + q * q * ((((((-(7030593573755547 / 618970019642690137449562112)) * q + (5047434750082821 / 2417851639229258349412352)) * q + (-(2602714736764387 / 9444732965739290427392))) * q + (7320136533427445 / 295147905179352825856)) * q + (-(6405119470030737 / 4611686018427387904))) * q + (6004799503160651 / 144115188075855872)) = cosP w := by
  have e : ∀ q : Rat, kG * ((1 - 1 / 2 * q) + q * q * ((((((-(7030593573755547 / 618970019642690137449562112)) * q + (5047434750082821 / 2417851639229258349412352)) * q + (-(2602714736764387 / 9444732965739290427392))) * q + (7320136533427445 / 295147905179352825856)) * q + (-(6405119470030737 / 4611686018427387904))) * q + (6004799503160651 / 144115188075855872))) = homR csI q 1 := fun q => by
    simp only [csI, homR, kG, opow, Rat.mul_one, List.length, Rat.mul_zero, Rat.add_zero]
    grind
  have hk : kG ≠ 0 := by unfold kG; decide +kernel
  unfold cosP C1
  rw [← h, ← e q, Rat.mul_comm kG, Rat.mul_div_cancel hk]
theorem sin_acc (z : Nat) (fz : Flt.fin z) (h : Abs (val z) (79 / 100)) : ∃ zz r, floatBits .mul .f64 z z = some zz ∧ SinE z zz r ∧ Flt.fin r ∧ Near (val r) (sinP (val z)) (4 / 10 ^ 15) := by
  have Tz : Ts z 1 (-(79 / 100)) (79 / 100) (val z) 0 := Ts.own fz h.1 h.2
  have q0 := sq0 (val z)
  have q1 := abs_sq h
  obtain ⟨zz, hzz, Tzz⟩ := mul_s (-(624100000000000624101 / 1000000000000000000000)) (624100000000000624101 / 1000000000000000000000) (79 / 100) (79 / 100) (6241 / 10000) (3121 / 5000000000000000000) sc1 Tz Tz (by constructor <;> decide +kernel)
  replace Tzz := Tzz.sc (S' := 1) (by decide +kernel)
  replace Tzz := Tzz.cut (l' := (-(1 / 100000000000000))) (u' := (63 / 100)) (by grind) (by grind)
  obtain ⟨m, hm, Tm⟩ := mul_s (-(497700000000000497701 / 1000000000000000000000)) (497700000000000497701 / 1000000000000000000000) (79 / 100) (63 / 100) (4977 / 10000) (9909 / 10000000000000000000) sc1 Tz Tzz (by constructor <;> decide +kernel)
  replace Tm := Tm.sc (S' := 1) (by decide +kernel)
  obtain ⟨p1, hp1, Tp1⟩ := mul_s (-(168976941576546567339 / 100000000000000000000000000000000000000000000)) (10014624999322443127 / 100000000000000000000000000000) (198703 / 1250000000000000) (63 / 100) (125183 / 1250000000000000) (997 / 5000000000000000000000000000) sc1 (Ts.const kS0) Tzz (by constructor <;> decide +kernel)
  replace Tp1 := Tp1.sc (S' := 1) (by decide +kernel)
  obtain ⟨a1, ha1, Ta1⟩ := add_s (-(15656717351786145819 / 625000000000000000000000000)) (-(62376503782161392673 / 2500000000000000000000000000)) (1253 / 50000000000) (1263 / 50000000000000000000000000) Sc.one Tp1 (Ts.const kS1) (by constructor <;> decide +kernel)
  obtain ⟨p2, hp2, Tp2⟩ := mul_s (-(39454927726501126919 / 2500000000000000000000000000)) (66572364407144583301 / 250000000000000000000000000000000000000000) (100203 / 4000000000000) (63 / 100) (789099 / 50000000000000) (2367 / 50000000000000000000000000) sc1 Ta1 Tzz (by constructor <;> decide +kernel)
  replace Tp2 := Tp2.sc (S' := 1) (by decide +kernel)
  obtain ⟨a2, ha2, Ta2⟩ := add_s (17124683694049806491 / 6250000000000000000000000) (137786568106928763381 / 50000000000000000000000000) (689 / 250000000) (701 / 250000000000000000000000) Sc.one Tp2 (Ts.const kS2) (by constructor <;> decide +kernel)
  obtain ⟨p3, hp3, Tp3⟩ := mul_s (-(292934256213857526763 / 10000000000000000000000000000000000000000)) (10850692238420650967 / 6250000000000000000000000) (688933 / 250000000000) (63 / 100) (108507 / 62500000000) (5223 / 1000000000000000000000000) sc1 Ta2 Tzz (by constructor <;> decide +kernel)
  replace Tp3 := Tp3.sc (S' := 1) (by decide +kernel)
  obtain ⟨a3, ha3, Ta3⟩ := add_s (-(9920634914794780791 / 50000000000000000000000)) (-(19667658753774788537 / 100000000000000000000000)) (397 / 2000000) (1019 / 5000000000000000000000) Sc.one Tp3 (Ts.const kS3) (by constructor <;> decide +kernel)
  obtain ⟨p4, hp4, Tp4⟩ := mul_s (-(124999999926414362967 / 1000000000000000000000000)) (210912708295895615821 / 100000000000000000000000000000000000000) (1984127 / 10000000000) (63 / 100) (1250001 / 10000000000) (3773 / 10000000000000000000000) sc1 Ta3 Tzz (by constructor <;> decide +kernel)
  replace Tp4 := Tp4.sc (S' := 1) (by decide +kernel)
  obtain ⟨a4, ha4, Ta4⟩ := add_s (12825520833430774271 / 1562500000000000000000) (416666666666106433677 / 50000000000000000000000) (4167 / 500000) (1089 / 125000000000000000000) Sc.one Tp4 (Ts.const kS4) (by constructor <;> decide +kernel)
  obtain ⟨p5, hp5, Tp5⟩ := mul_s (-(177166668666442573471 / 2000000000000000000000000000000000000)) (262499999999647315717 / 50000000000000000000000) (4166667 / 500000000) (63 / 100) (5250001 / 1000000000) (319 / 20000000000000000000) sc1 Ta4 Tzz (by constructor <;> decide +kernel)
  replace Tp5 := Tp5.sc (S' := 1) (by decide +kernel)
  obtain ⟨a5, ha5, Ta5⟩ := add_s (-(41666666666666637969 / 250000000000000000000)) (-(161416666666673183577 / 1000000000000000000000)) (1667 / 10000) (1827 / 10000000000000000000) Sc.one Tp5 (Ts.const kS5) (by constructor <;> decide +kernel)
  obtain ⟨t, ht, Tt⟩ := mul_s (-(829500000000001087689 / 10000000000000000000000)) (829500000000001087689 / 10000000000000000000000) (4977001 / 10000000) (1666667 / 10000000) (2073751 / 25000000) (3391 / 10000000000000000000) sc1 Tm Ta5 (by constructor <;> decide +kernel)
  replace Tt := Tt.sc (S' := 1) (by decide +kernel)
  obtain ⟨r, hr, Tr⟩ := add_s (-(872950000000000981769 / 1000000000000000000000)) (872950000000000981769 / 1000000000000000000000) (873 / 1000) (1213 / 1000000000000000000) Sc.one Tz Tt (by constructor <;> decide +kernel)
  have he := sinP_eq (val z) _ rfl
  have hn := Tr.near
  exact ⟨zz, r, hzz, ⟨m, p1, a1, p2, a2, p3, a3, p4, a4, p5, a5, t, hm, hp1, ha1, hp2, ha2, hp3, ha3, hp4, ha4, hp5, ha5, ht, hr⟩, Tr.fin, near_mono (by rw [← he]; exact hn) (by decide +kernel)⟩
theorem cos_acc (z : Nat) (fz : Flt.fin z) (h : Abs (val z) (79 / 100)) : ∃ zz r, floatBits .mul .f64 z z = some zz ∧ CosE z zz r ∧ Flt.fin r ∧ Near (val r) (cosP (val z)) (4 / 10 ^ 15) := by
  have Tz : Ts z 1 (-(79 / 100)) (79 / 100) (val z) 0 := Ts.own fz h.1 h.2
  have q0 := sq0 (val z)
  have q1 := abs_sq h
  obtain ⟨zz, hzz, Tzz⟩ := mul_s (-(624100000000000624101 / 1000000000000000000000)) (624100000000000624101 / 1000000000000000000000) (79 / 100) (79 / 100) (6241 / 10000) (3121 / 5000000000000000000) sc1 Tz Tz (by constructor <;> decide +kernel)
  replace Tzz := Tzz.sc (S' := 1) (by decide +kernel)
  replace Tzz := Tzz.cut (l' := (-(1 / 100000000000000))) (u' := (63 / 100)) (by grind) (by grind)
  obtain ⟨h', hh', Th'⟩ := mul_s (-(531500000000000000001 / 100000000000000000000000000000000000)) (315000000000000315001 / 1000000000000000000000) (1 / 2) (63 / 100) (63 / 200) (49 / 78125000000000000) sc1 (Ts.const kHalf) Tzz (by constructor <;> decide +kernel)
  replace Th' := Th'.sc (S' := 1) (by decide +kernel)
  obtain ⟨b, hb, Tb⟩ := sub_s (342499999999999341999 / 500000000000000000000) (100000000000000631601 / 100000000000000000000) (1001 / 1000) (1629 / 1000000000000000000) Sc.one (Ts.const c1_) Th' (by constructor <;> decide +kernel)
  obtain ⟨m, hm, Tm⟩ := mul_s (-(669690000000000000001 / 100000000000000000000000000000000000)) (396900000000000396901 / 1000000000000000000000) (63 / 100) (63 / 100) (3969 / 10000) (37 / 31250000000000000) sc1 Tzz Tzz (by constructor <;> decide +kernel)
  replace Tm := Tm.sc (S' := 1) (by decide +kernel)
  obtain ⟨p1, hp1, Tp1⟩ := mul_s (-(357793900423712349341 / 50000000000000000000000000000000)) (60370623106938461357 / 500000000000000000000000000000000000000000000) (567927 / 50000000000000000) (63 / 100) (7155881 / 1000000000000000000) (57 / 4000000000000000000000000000) sc1 (Ts.const kC0) Tzz (by constructor <;> decide +kernel)
  replace Tp1 := Tp1.sc (S' := 1) (by decide +kernel)
  obtain ⟨a1, ha1, Ta1⟩ := add_s (208041420618899667969 / 100000000000000000000000000000) (208757008419747522343 / 100000000000000000000000000000) (261 / 125000000000) (2103 / 1000000000000000000000000000) Sc.one Tp1 (Ts.const kC1) (by constructor <;> decide +kernel)
  obtain ⟨p2, hp2, Tp2⟩ := mul_s (-(221908708419747523343 / 10000000000000000000000000000000000000000000)) (65758457652220535297 / 50000000000000000000000000000) (2087571 / 1000000000000000) (63 / 100) (131517 / 100000000000000) (493 / 125000000000000000000000000) sc1 Ta1 Tzz (by constructor <;> decide +kernel)
  replace Tp2 := Tp2.sc (S' := 1) (by decide +kernel)
  obtain ⟨a2, ha2, Ta2⟩ := add_s (-(34446642724120962307 / 125000000000000000000000000)) (-(137128986319961357179 / 500000000000000000000000000)) (689 / 2500000000) (699 / 2500000000000000000000000) Sc.one Tp2 (Ts.const kC2) (by constructor <;> decide +kernel)
  obtain ⟨p3, hp3, Tp3⟩ := mul_s (-(173611079329569823639 / 1000000000000000000000000000)) (146467130896483849233 / 50000000000000000000000000000000000000000) (688933 / 2500000000000) (63 / 100) (108507 / 625000000000) (2609 / 5000000000000000000000000) sc1 Ta2 Tzz (by constructor <;> decide +kernel)
  replace Tp3 := Tp3.sc (S' := 1) (by decide +kernel)
  obtain ⟨a3, ha3, Ta3⟩ := add_s (246279762095221091723 / 10000000000000000000000000) (124007936444258657727 / 5000000000000000000000000) (2481 / 100000000) (1267 / 50000000000000000000000) Sc.one Tp3 (Ts.const kC3) (by constructor <;> decide +kernel)
  obtain ⟨p4, hp4, Tp4⟩ := mul_s (-(52728176577703463091 / 200000000000000000000000000000000000000)) (156249999919766064987 / 10000000000000000000000000) (2480159 / 100000000000) (63 / 100) (1562501 / 100000000000) (1177 / 25000000000000000000000) sc1 Ta3 Tzz (by constructor <;> decide +kernel)
  replace Tp4 := Tp4.sc (S' := 1) (by decide +kernel)
  obtain ⟨a4, ha4, Ta4⟩ := add_s (-(138888888888730722569 / 100000000000000000000000)) (-(68663194444766378877 / 50000000000000000000000)) (1389 / 1000000) (1437 / 1000000000000000000000) Sc.one Tp4 (Ts.const kC4) (by constructor <;> decide +kernel)
  obtain ⟨p5, hp5, Tp5⟩ := mul_s (-(174999999999800885437 / 200000000000000000000000)) (14763888988873072257 / 1000000000000000000000000000000000000) (1388889 / 1000000000) (63 / 100) (8750001 / 10000000000) (331 / 125000000000000000000) sc1 Ta4 Tzz (by constructor <;> decide +kernel)
  replace Tp5 := Tp5.sc (S' := 1) (by decide +kernel)
  obtain ⟨a5, ha5, Ta5⟩ := add_s (16316666666667019547 / 400000000000000000000) (416666666666666513987 / 10000000000000000000000) (4167 / 100000) (277 / 6250000000000000000) Sc.one Tp5 (Ts.const kC5) (by constructor <;> decide +kernel)
  obtain ⟨t, ht, Tt⟩ := mul_s (-(295575009999999897753 / 1000000000000000000000000000000000000)) (20671875000000033769 / 1250000000000000000000) (3969001 / 10000000) (4166667 / 100000000) (1653751 / 100000000) (8347 / 100000000000000000000) sc1 Tm Ta5 (by constructor <;> decide +kernel)
  replace Tt := Tt.sc (S' := 1) (by decide +kernel)
  obtain ⟨r, hr, Tr⟩ := add_s (342499999999998685711 / 500000000000000000000) (101653750000000736003 / 100000000000000000000) (1017 / 1000) (273 / 100000000000000000) Sc.one Tb Tt (by constructor <;> decide +kernel)
  have he := cosP_eq (val z) _ rfl
  have hn := Tr.near
  exact ⟨zz, r, hzz, ⟨h', b, m, p1, a1, p2, a2, p3, a3, p4, a4, p5, a5, t, hh', hb, hm, hp1, ha1, hp2, ha2, hp3, ha3, hp4, ha4, hp5, ha5, ht, hr⟩, Tr.fin, near_mono (by rw [← he]; exact hn) (by decide +kernel)⟩
theorem red_0 (x : Nat) (fx : Flt.fin x) (h1 : (0) ≤ val x) (h2 : val x ≤ (787 / 1000)) : ∃ z, RedE x 0 z ∧ Flt.fin z ∧ Abs (val z) (79 / 100) ∧ Near (val z) (val x - 0 * p4) (3 / 10 ^ 14) := by
  have Tx : Ts x 1 (0) (787 / 1000) (val x) 0 := Ts.own fx h1 h2
  obtain ⟨e1, he1, Te1⟩ := mul_s (-(1 / 10000000000000000000000000000000000000000)) (1 / 10000000000000000000000000000000000000000) (0) (3926991 / 5000000) (0) (1 / 10000000000000000000000000000000000000000) sc1 (Ts.const kY0) (Ts.const kPA) (by constructor <;> decide +kernel)
  replace Te1 := Te1.sc (S' := 1) (by decide +kernel)
  obtain ⟨d1, hd1, Td1⟩ := sub_s (-(787100000000000000001 / 1000000000000000000000000000000000000)) (787000000000000787101 / 1000000000000000000000) (7871 / 10000) (123 / 156250000000000000) Sc.one Tx Te1 (by constructor <;> decide +kernel)
  obtain ⟨e2, he2, Te2⟩ := mul_s (-(1 / 10000000000000000000000000000000000000000)) (1 / 10000000000000000000000000000000000000000) (0) (754979 / 20000000000000) (0) (1 / 10000000000000000000000000000000000000000) sc1 (Ts.const kY0) (Ts.const kPB) (by constructor <;> decide +kernel)
  replace Te2 := Te2.sc (S' := 1) (by decide +kernel)
  obtain ⟨d2, hd2, Td2⟩ := sub_s (-(157420000000000000001 / 100000000000000000000000000000000000)) (393500000000000787101 / 500000000000000000000) (7871 / 10000) (63 / 40000000000000000) Sc.one Td1 Te2 (by constructor <;> decide +kernel)
  obtain ⟨e3, he3, Te3⟩ := mul_s (-(1 / 10000000000000000000000000000000000000000)) (1 / 10000000000000000000000000000000000000000) (0) (168447 / 62500000000000000000) (0) (1 / 10000000000000000000000000000000000000000) sc1 (Ts.const kY0) (Ts.const kPC) (by constructor <;> decide +kernel)
  replace Te3 := Te3.sc (S' := 1) (by decide +kernel)
  obtain ⟨z, hz, Tz⟩ := sub_s (-(118065000000000000001 / 50000000000000000000000000000000000)) (787000000000002361303 / 1000000000000000000000) (7871 / 10000) (2363 / 1000000000000000000) Sc.one Td2 Te3 (by constructor <;> decide +kernel)
  have hn := Tz.near
  have hl := Tz.lo
  have hu := Tz.hi
  exact ⟨z, ⟨e1, d1, e2, d2, e3, he1, hd1, he2, hd2, he3, hz⟩, Tz.fin, ⟨by grind, by grind⟩, near_mono (near_trans hn (e := 1 / 10 ^ 14 - 1 / 10 ^ 14 + (0)) (by unfold Near p4; constructor <;> grind)) (by decide +kernel)⟩
theorem red_1 (x : Nat) (fx : Flt.fin x) (h1 : (7837 / 10000) ≤ val x) (h2 : val x ≤ (23577 / 10000)) : ∃ z, RedE x 4611686018427387904 z ∧ Flt.fin z ∧ Abs (val z) (79 / 100) ∧ Near (val z) (val x - 2 * p4) (3 / 10 ^ 14) := by
  have Tx : Ts x 1 (7837 / 10000) (23577 / 10000) (val x) 0 := Ts.own fx h1 h2
  obtain ⟨e1, he1, Te1⟩ := mul_s (157079625129699549951 / 100000000000000000000) (157079625129699864111 / 100000000000000000000) (2) (3926991 / 5000000) (1570797 / 1000000) (1571 / 1000000000000000000) sc1 (Ts.const kY1) (Ts.const kPA) (by constructor <;> decide +kernel)
  replace Te1 := Te1.sc (S' := 1) (by decide +kernel)
  obtain ⟨d1, hd1, Td1⟩ := sub_s (-(787096251296999428211 / 1000000000000000000000)) (786903748703005287591 / 1000000000000000000000) (7871 / 10000) (2359 / 1000000000000000000) Sc.one Tx Te1 (by constructor <;> decide +kernel)
  obtain ⟨e2, he2, Te2⟩ := mul_s (188744735396539720089 / 2500000000000000000000000000) (150995788317232078063 / 2000000000000000000000000000) (2) (754979 / 20000000000000) (754979 / 10000000000000) (151 / 2000000000000000000000000) sc1 (Ts.const kY1) (Ts.const kPB) (by constructor <;> decide +kernel)
  replace Te2 := Te2.sc (S' := 1) (by decide +kernel)
  obtain ⟨d2, hd2, Td2⟩ := sub_s (-(98387040849361796741 / 125000000000000000000)) (196725918301277979019 / 250000000000000000000) (7871 / 10000) (3147 / 1000000000000000000) Sc.one Td1 Te2 (by constructor <;> decide +kernel)
  obtain ⟨e3, he3, Te3⟩ := mul_s (26951514290790567889 / 5000000000000000000000000000000000) (269515142907906217921 / 50000000000000000000000000000000000) (2) (168447 / 62500000000000000000) (168447 / 31250000000000000000) (5391 / 1000000000000000000000000000000000) sc1 (Ts.const kY1) (Ts.const kPC) (by constructor <;> decide +kernel)
  replace Te3 := Te3.sc (S' := 1) (by decide +kernel)
  obtain ⟨z, hz, Tz⟩ := sub_s (-(787096326794900551331 / 1000000000000000000000)) (393451836602553656437 / 500000000000000000000) (7871 / 10000) (787 / 200000000000000000) Sc.one Td2 Te3 (by constructor <;> decide +kernel)
  have hn := Tz.near
  have hl := Tz.lo
  have hu := Tz.hi
  exact ⟨z, ⟨e1, d1, e2, d2, e3, he1, hd1, he2, hd2, he3, hz⟩, Tz.fin, ⟨by grind, by grind⟩, near_mono (near_trans hn (e := 1 / 10 ^ 14 - 1 / 10 ^ 14 + (1531 / 25000000000000000000)) (by unfold Near p4; constructor <;> grind)) (by decide +kernel)⟩
theorem red_2 (x : Nat) (fx : Flt.fin x) (h1 : (4709 / 2000) ≤ val x) (h2 : val x ≤ (7857 / 2000)) : ∃ z, RedE x 4616189618054758400 z ∧ Flt.fin z ∧ Abs (val z) (79 / 100) ∧ Near (val z) (val x - 4 * p4) (3 / 10 ^ 14) := by
  have Tx : Ts x 1 (4709 / 2000) (7857 / 2000) (val x) 0 := Ts.own fx h1 h2
  obtain ⟨e1, he1, Te1⟩ := mul_s (314159250259399099903 / 100000000000000000000) (157079625129699864111 / 50000000000000000000) (4) (3926991 / 5000000) (3141593 / 1000000) (1571 / 500000000000000000) sc1 (Ts.const kY2) (Ts.const kPA) (by constructor <;> decide +kernel)
  replace Te1 := Te1.sc (S' := 1) (by decide +kernel)
  obtain ⟨d1, hd1, Td1⟩ := sub_s (-(787092502593998069321 / 1000000000000000000000)) (786907497406009788071 / 1000000000000000000000) (7871 / 10000) (393 / 100000000000000000) Sc.one Tx Te1 (by constructor <;> decide +kernel)
  obtain ⟨e2, he2, Te2⟩ := mul_s (150995788317231776071 / 1000000000000000000000000000) (150995788317232078063 / 1000000000000000000000000000) (4) (754979 / 20000000000000) (754979 / 5000000000000) (151 / 1000000000000000000000000) sc1 (Ts.const kY2) (Ts.const kPB) (by constructor <;> decide +kernel)
  replace Te2 := Te2.sc (S' := 1) (by decide +kernel)
  obtain ⟨d2, hd2, Td2⟩ := sub_s (-(393546326794893586827 / 500000000000000000000)) (39345367320511112897 / 50000000000000000000) (7871 / 10000) (2359 / 500000000000000000) Sc.one Td1 Te2 (by constructor <;> decide +kernel)
  obtain ⟨e3, he3, Te3⟩ := mul_s (26951514290790567889 / 2500000000000000000000000000000000) (107806057163162487169 / 10000000000000000000000000000000000) (4) (168447 / 62500000000000000000) (1078061 / 100000000000000000000) (1079 / 100000000000000000000000000000000) sc1 (Ts.const kY2) (Ts.const kPC) (by constructor <;> decide +kernel)
  replace Te3 := Te3.sc (S' := 1) (by decide +kernel)
  obtain ⟨z, hz, Tz⟩ := sub_s (-(9838658169872484267 / 12500000000000000000)) (157381469282042452887 / 200000000000000000000) (7871 / 10000) (2753 / 500000000000000000) Sc.one Td2 Te3 (by constructor <;> decide +kernel)
  have hn := Tz.near
  have hl := Tz.lo
  have hu := Tz.hi
  exact ⟨z, ⟨e1, d1, e2, d2, e3, he1, hd1, he2, hd2, he3, hz⟩, Tz.fin, ⟨by grind, by grind⟩, near_mono (near_trans hn (e := 1 / 10 ^ 14 - 1 / 10 ^ 14 + (49 / 400000000000000000)) (by unfold Near p4; constructor <;> grind)) (by decide +kernel)⟩
theorem red_3 (x : Nat) (fx : Flt.fin x) (h1 : (39253 / 10000) ≤ val x) (h2 : val x ≤ (54993 / 10000)) : ∃ z, RedE x 4618441417868443648 z ∧ Flt.fin z ∧ Abs (val z) (79 / 100) ∧ Near (val z) (val x - 6 * p4) (3 / 10 ^ 14) := by
  have Tx : Ts x 1 (39253 / 10000) (54993 / 10000) (val x) 0 := Ts.own fx h1 h2
  obtain ⟨e1, he1, Te1⟩ := mul_s (235619437694549324927 / 50000000000000000000) (471238875389099592333 / 100000000000000000000) (6) (3926991 / 5000000) (471239 / 100000) (4713 / 1000000000000000000) sc1 (Ts.const kY3) (Ts.const kPA) (by constructor <;> decide +kernel)
  replace Te1 := Te1.sc (S' := 1) (by decide +kernel)
  obtain ⟨d1, hd1, Td1⟩ := sub_s (-(787088753890996710431 / 1000000000000000000000)) (786911246109014288561 / 1000000000000000000000) (7871 / 10000) (5501 / 1000000000000000000) Sc.one Tx Te1 (by constructor <;> decide +kernel)
  obtain ⟨e2, he2, Te2⟩ := mul_s (113246841237923832053 / 500000000000000000000000000) (45298736495169623419 / 200000000000000000000000000) (6) (754979 / 20000000000000) (2264937 / 10000000000000) (453 / 2000000000000000000000000) sc1 (Ts.const kY3) (Ts.const kPB) (by constructor <;> decide +kernel)
  replace Te2 := Te2.sc (S' := 1) (by decide +kernel)
  obtain ⟨d2, hd2, Td2⟩ := sub_s (-(39354449019233998669 / 50000000000000000000)) (393455509807666299907 / 500000000000000000000) (7871 / 10000) (6289 / 1000000000000000000) Sc.one Td1 Te2 (by constructor <;> decide +kernel)
  obtain ⟨e3, he3, Te3⟩ := mul_s (80854542872371703667 / 5000000000000000000000000000000000) (161709085744743730753 / 10000000000000000000000000000000000) (6) (168447 / 62500000000000000000) (404273 / 25000000000000000000) (809 / 50000000000000000000000000000000) sc1 (Ts.const kY3) (Ts.const kPC) (by constructor <;> decide +kernel)
  replace Te3 := Te3.sc (S' := 1) (by decide +kernel)
  obtain ⟨z, hz, Tz⟩ := sub_s (-(787088980384696931389 / 1000000000000000000000)) (393455509807658608003 / 500000000000000000000) (7871 / 10000) (7077 / 1000000000000000000) Sc.one Td2 Te3 (by constructor <;> decide +kernel)
  have hn := Tz.near
  have hl := Tz.lo
  have hu := Tz.hi
  exact ⟨z, ⟨e1, d1, e2, d2, e3, he1, hd1, he2, hd2, he3, hz⟩, Tz.fin, ⟨by grind, by grind⟩, near_mono (near_trans hn (e := 1 / 10 ^ 14 - 1 / 10 ^ 14 + (1837 / 10000000000000000000)) (by unfold Near p4; constructor <;> grind)) (by decide +kernel)⟩
theorem red_4 (x : Nat) (fx : Flt.fin x) (h1 : (54961 / 10000) ≤ val x) (h2 : val x ≤ (70701 / 10000)) : ∃ z, RedE x 4620693217682128896 z ∧ Flt.fin z ∧ Abs (val z) (79 / 100) ∧ Near (val z) (val x - 8 * p4) (3 / 10 ^ 14) := by
  have Tx : Ts x 1 (54961 / 10000) (70701 / 10000) (val x) 0 := Ts.own fx h1 h2
  obtain ⟨e1, he1, Te1⟩ := mul_s (314159250259399099903 / 50000000000000000000) (157079625129699864111 / 25000000000000000000) (8) (3926991 / 5000000) (3141593 / 500000) (1571 / 250000000000000000) sc1 (Ts.const kY4) (Ts.const kPA) (by constructor <;> decide +kernel)
  replace Te1 := Te1.sc (S' := 1) (by decide +kernel)
  obtain ⟨d1, hd1, Td1⟩ := sub_s (-(787085005187995351541 / 1000000000000000000000)) (786914994812018789041 / 1000000000000000000000) (7871 / 10000) (221 / 31250000000000000) Sc.one Tx Te1 (by constructor <;> decide +kernel)
  obtain ⟨e2, he2, Te2⟩ := mul_s (150995788317231776071 / 500000000000000000000000000) (150995788317232078063 / 500000000000000000000000000) (8) (754979 / 20000000000000) (754979 / 2500000000000) (151 / 500000000000000000000000) sc1 (Ts.const kY4) (Ts.const kPB) (by constructor <;> decide +kernel)
  replace Te2 := Te2.sc (S' := 1) (by decide +kernel)
  obtain ⟨d2, hd2, Td2⟩ := sub_s (-(393542653589786386553 / 500000000000000000000)) (393457346410221470839 / 500000000000000000000) (7871 / 10000) (393 / 50000000000000000) Sc.one Td1 Te2 (by constructor <;> decide +kernel)
  obtain ⟨e3, he3, Te3⟩ := mul_s (26951514290790567889 / 1250000000000000000000000000000000) (215612114326324974337 / 10000000000000000000000000000000000) (8) (168447 / 62500000000000000000) (1078061 / 50000000000000000000) (2157 / 100000000000000000000000000000000) sc1 (Ts.const kY4) (Ts.const kPC) (by constructor <;> decide +kernel)
  replace Te3 := Te3.sc (S' := 1) (by decide +kernel)
  obtain ⟨z, hz, Tz⟩ := sub_s (-(393542653589797560709 / 500000000000000000000)) (786914692820422167567 / 1000000000000000000000) (7871 / 10000) (1081 / 125000000000000000) Sc.one Td2 Te3 (by constructor <;> decide +kernel)
  have hn := Tz.near
  have hl := Tz.lo
  have hu := Tz.hi
  exact ⟨z, ⟨e1, d1, e2, d2, e3, he1, hd1, he2, hd2, he3, hz⟩, Tz.fin, ⟨by grind, by grind⟩, near_mono (near_trans hn (e := 1 / 10 ^ 14 - 1 / 10 ^ 14 + (49 / 200000000000000000)) (by unfold Near p4; constructor <;> grind)) (by decide +kernel)⟩
end Go.Proofs.YtkbgkogfjfojgaaDoor

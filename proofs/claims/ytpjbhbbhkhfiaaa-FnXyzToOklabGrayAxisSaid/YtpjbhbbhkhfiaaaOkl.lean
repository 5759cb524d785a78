/- The law FnXyzToOklabGrayAxis in numbers. -/
import Derived.Test.YtpjbhbbhkhfiaaaOkw
set_option linter.unusedSimpArgs false
set_option linter.unusedVariables false
set_option maxRecDepth 100000
namespace Go.Proofs.Ytpjbhbbhkhfiaaa
open Go.RowKit
open Flt Ieee
theorem kk4606736165463080392 : fin 4606736165463080392 ∧ val 4606736165463080392 = (1070118239725497 / 1125899906842624) := const_val (by decide +kernel) (by decide +kernel)
theorem kk4607583499253154051 : fin 4607583499253154051 ∧ val 4607583499253154051 = (4904680080507139 / 4503599627370496) := const_val (by decide +kernel) (by decide +kernel)
theorem kk4605552317885431608 : fin 4605552317885431608 ∧ val 4605552317885431608 = (922137292519399 / 1125899906842624) := const_val (by decide +kernel) (by decide +kernel)
theorem kk4600191143441610756 : fin 4600191143441610756 ∧ val 4600191143441610756 = (1629880880926209 / 4503599627370496) := const_val (by decide +kernel) (by decide +kernel)
theorem kk13817183224500110982 : fin 13817183224500110982 ∧ val 13817183224500110982 = (-(2321583677399875 / 18014398509481984)) := const_val (by decide +kernel) (by decide +kernel)
theorem kk4584914268437469546 : fin 4584914268437469546 ∧ val 4584914268437469546 = (2376723700837557 / 72057594037927936) := const_val (by decide +kernel) (by decide +kernel)
theorem kk4606545491340083669 : fin 4606545491340083669 ∧ val 4606545491340083669 = (8370271794807253 / 9007199254740992) := const_val (by decide +kernel) (by decide +kernel)
theorem kk4585369816687053158 : fin 4585369816687053158 ∧ val 4585369816687053158 = (2604497825629363 / 72057594037927936) := const_val (by decide +kernel) (by decide +kernel)
theorem kk4587103887212223230 : fin 4587103887212223230 ∧ val 4587103887212223230 = (3471533088214399 / 72057594037927936) := const_val (by decide +kernel) (by decide +kernel)
theorem kk4598431736022207442 : fin 4598431736022207442 ∧ val 4598431736022207442 = (2380058052150761 / 9007199254740992) := const_val (by decide +kernel) (by decide +kernel)
theorem kk4603881711049788294 : fin 4603881711049788294 ∧ val 4603881711049788294 = (2853245752255939 / 4503599627370496) := const_val (by decide +kernel) (by decide +kernel)
theorem kk4596750433936516346 : fin 4596750433936516346 ∧ val 4596750433936516346 = (3791206822990461 / 18014398509481984) := const_val (by decide +kernel) (by decide +kernel)
theorem kk4605323493066877613 : fin 4605323493066877613 ∧ val 4605323493066877613 = (7148273521601197 / 9007199254740992) := const_val (by decide +kernel) (by decide +kernel)
theorem kk13794716809331944248 : fin 13794716809331944248 ∧ val 13794716809331944248 = (-(586843790435687 / 144115188075855872)) := const_val (by decide +kernel) (by decide +kernel)
theorem kk4611586932458118674 : fin 4611586932458118674 ∧ val 4611586932458118674 = (4454056642735881 / 2251799813685248) := const_val (by decide +kernel) (by decide +kernel)
theorem kk13836023159129529662 : fin 13836023159129529662 ∧ val 13836023159129529662 = (-(2734351737368223 / 1125899906842624)) := const_val (by decide +kernel) (by decide +kernel)
theorem kk4601788794573910437 : fin 4601788794573910437 ∧ val 4601788794573910437 = (8117174656004517 / 18014398509481984) := const_val (by decide +kernel) (by decide +kernel)
theorem kk4583123551765604832 : fin 4583123551765604832 ∧ val 4583123551765604832 = (233322823661903 / 9007199254740992) := const_val (by decide +kernel) (by decide +kernel)
theorem kk4605225800814425346 : fin 4605225800814425346 ∧ val 4605225800814425346 = (3525290634574465 / 4503599627370496) := const_val (by decide +kernel) (by decide +kernel)
theorem kk13828831160156894525 : fin 13828831160156894525 ∧ val 13828831160156894525 = (-(7283903756842301 / 9007199254740992)) := const_val (by decide +kernel) (by decide +kernel)
theorem kk4532020583610935537 : fin 4532020583610935537 ∧ val 4532020583610935537 = (5902958103587057 / 590295810358705651712) := const_val (by decide +kernel) (by decide +kernel)
theorem _root_.Go.Proofs.Ytpjbhbbhkhfiaaa.Flt.Ts.lohi {x : Nat} {S l u E e : Rat} (h : Ts x S l u E e) (hS : 0 < S) : l * S ≤ val x ∧ val x ≤ u * S := by
  obtain ⟨_, v, q, h1, h2, _⟩ := h
  rw [q]
  exact ⟨Rat.mul_le_mul_of_nonneg_right h1 (Rat.le_of_lt hS), Rat.mul_le_mul_of_nonneg_right h2 (Rat.le_of_lt hS)⟩
theorem root_near {K a b : Rat} (hK : 0 < K) (ha : 0 < a) (hb : 0 < b) {x y : Rat} (x1 : (1 - 1 / 1000000000) * K ≤ x) (x2 : x ≤ (1 + 1 / 1000000000) * K) (y1 : (1 - 1 / 1000000000) * K ≤ y) (y2 : y ≤ (1 + 1 / 1000000000) * K)
    (na : Near (a * a * a) x (x / 10 ^ 13)) (nb : Near (b * b * b) y (y / 10 ^ 13)) : ∃ v, a = v * b ∧ 1 - 3 / 1000000000 ≤ v ∧ v ≤ 1 + 3 / 1000000000 := by
  have e : a / b * b = a := Rat.div_mul_cancel (by grind)
  refine ⟨a / b, e.symm, ?_⟩
  have hv : 0 < a / b := by
    rcases Rat.le_total (a := a / b) (b := 0) with c | c
    · have := Rat.mul_nonneg (show 0 ≤ -(a / b) by grind) (Rat.le_of_lt hb); grind
    · by_cases c' : a / b = 0
      · rw [c', Rat.zero_mul] at e; grind
      · grind
  generalize a / b = v at *
  have hb3 : 0 < b * b * b := Rat.mul_pos (Rat.mul_pos hb hb) hb
  have e3 : v * v * v * (b * b * b) = a * a * a := by rw [← e]; grind
  have ex : x / 10 ^ 13 = x * (1 / 10000000000000) := by grind
  have ey : y / 10 ^ 13 = y * (1 / 10000000000000) := by grind
  rw [ex] at na
  rw [ey] at nb
  unfold Near at na nb
  have lo : (1 - 5 / 2000000000) * (b * b * b) ≤ a * a * a := by grind
  have hi : a * a * a ≤ (1 + 5 / 2000000000) * (b * b * b) := by grind
  rw [← e3] at lo hi
  have lo' := mul_le_cancel hb3 lo
  have hi' := mul_le_cancel hb3 hi
  exact ⟨cube_lo hv (by decide +kernel) lo' (by decide +kernel), cube_hi hv (by decide +kernel) hi' (by decide +kernel)⟩
theorem abs_le_abs {d t : Nat} (wd : d < 2 ^ 64) (fd : fin d) (ft : fin t) {T : Rat} (h1 : -T ≤ val d) (h2 : val d ≤ T) (h3 : T ≤ val t) : leB (absB d) t = true := by
  obtain ⟨fa, -, -, h⟩ := absB_val wd fd
  refine (leB_iff fa ft).2 ?_
  rcases h with h | h <;> rw [h] <;> grind
set_option maxHeartbeats 4000000 in
theorem ok_plain (k : Nat) (wk : k < 2 ^ 64) (h : (geB k 4517329193108106637 && leB k 4652007308841189376) = true) :
    ∃ x z m0r m1r m2r q2 q3 t d u, floatBits .mul .f64 k 4606736165463080392 = some x ∧ floatBits .mul .f64 k 4607583499253154051 = some z ∧ OkP x k z m0r m1r m2r ∧ gtB m0r 0 = true ∧ floatBits .mul .f64 m0r m0r = some q2 ∧ floatBits .mul .f64 q2 m0r = some q3 ∧ floatBits .mul .f64 4532020583610935537 k = some t ∧ floatBits .sub .f64 q3 k = some d ∧ leB (absB d) t = true ∧
      floatBits .mul .f64 4532020583610935537 m0r = some u ∧ leB (absB m1r) u = true ∧ leB (absB m2r) u = true := by
  rw [Bool.and_eq_true] at h
  have klo : fin 4517329193108106637 ∧ val 4517329193108106637 = (4722366482869645 / 4722366482869645213696) := const_val (by decide +kernel) (by decide +kernel)
  have khi : fin 4652007308841189376 ∧ val 4652007308841189376 = 1000 := const_val (by decide +kernel) (by decide +kernel)
  have fk := fin_of_between klo.1 khi.1 h.1 h.2
  have k1 := (geB_iff fk klo.1).1 h.1
  have k2 := (leB_iff fk khi.1).1 h.2
  rw [klo.2] at k1
  rw [khi.2] at k2
  have hk1 : 1 / 2000000 ≤ val k := Rat.le_trans (by decide +kernel) k1
  clear klo khi k1 h
  obtain ⟨K, hK⟩ : ∃ K, val k = K := ⟨_, rfl⟩
  have Tk := Ts.self fk hK
  rw [hK] at hk1 k2
  have sK : Sc K := ⟨Rat.le_trans (by decide +kernel) hk1, Rat.le_trans k2 (by decide +kernel)⟩
  have sK' : Sc (K * 1) := by rw [Rat.mul_one]; exact sK
  have sK'' : Sc (1 * K) := by rw [Rat.one_mul]; exact sK
  have K0 := sK.pos
  obtain ⟨x, hx, Tx⟩ := mul_s (950455927051670750211 / 1000000000000000000000) (237613981762918162781 / 250000000000000000000) (1) (118807 / 125000) (118807 / 125000) (1901 / 2000000000000000000) sK' Tk (Ts.const kk4606736165463080392) (by constructor <;> decide +kernel)
  replace Tx := Tx.sc (S' := K) (by rw [Rat.mul_one])
  obtain ⟨z, hz, Tz⟩ := mul_s (108905775075987733997 / 100000000000000000000) (10890577507598795181 / 10000000000000000000) (1) (544529 / 500000) (544529 / 500000) (109 / 100000000000000000) sK' Tk (Ts.const kk4607583499253154051) (by constructor <;> decide +kernel)
  replace Tz := Tz.sc (S' := K) (by rw [Rat.mul_one])
  obtain ⟨l0p0, hl0p0, Tl0p0⟩ := mul_s (194611183885849346193 / 250000000000000000000) (389222367771700249277 / 500000000000000000000) (118807 / 125000) (327609 / 400000) (7784449 / 10000000) (1557 / 1000000000000000000) sK' Tx (Ts.const kk4605552317885431608) (by constructor <;> decide +kernel)
  replace Tl0p0 := Tl0p0.sc (S' := K) (by rw [Rat.mul_one])
  obtain ⟨l0p1, hl0p1, Tl0p1⟩ := mul_s (14476250251204868481 / 40000000000000000000) (180953128140061217919 / 500000000000000000000) (1) (3619063 / 10000000) (3619063 / 10000000) (181 / 500000000000000000) sK' Tk (Ts.const kk4600191143441610756) (by constructor <;> decide +kernel)
  replace Tl0p1 := Tl0p1.sc (S' := K) (by rw [Rat.mul_one])
  obtain ⟨l0s, hl0s, Tl0s⟩ := add_s (114035099182351795579 / 100000000000000000000) (5701754959117620377 / 5000000000000000000) (1141 / 1000) (3061 / 1000000000000000000) sK Tl0p0 Tl0p1 (by constructor <;> decide +kernel)
  obtain ⟨l0p2, hl0p2, Tl0p2⟩ := mul_s (-(17543873977940161819 / 125000000000000000000)) (-(28070198364704146629 / 200000000000000000000)) (544529 / 500000) (644369 / 5000000) (1403511 / 10000000) (2809 / 10000000000000000000) sK' Tz (Ts.const kk13817183224500110982) (by constructor <;> decide +kernel)
  replace Tl0p2 := Tl0p2.sc (S' := K) (by rw [Rat.mul_one])
  obtain ⟨l0r, hl0r, Tl0r⟩ := add_s (99999999999999566023 / 100000000000000000000) (50000000000000217163 / 50000000000000000000) (1001 / 1000) (4343 / 1000000000000000000) sK Tl0s Tl0p2 (by constructor <;> decide +kernel)
  obtain ⟨l1p0, hl1p0, Tl1p0⟩ := mul_s (313495219842646021333 / 10000000000000000000000) (62699043968529455063 / 2000000000000000000000) (118807 / 125000) (3298367 / 100000000) (3134953 / 100000000) (6271 / 100000000000000000000) sK' Tx (Ts.const kk4584914268437469546) (by constructor <;> decide +kernel)
  replace Tl1p0 := Tl1p0.sc (S' := K) (by rw [Rat.mul_one])
  obtain ⟨l1p1, hl1p1, Tl1p1⟩ := mul_s (929286846896553678757 / 1000000000000000000000) (929286846896555537331 / 1000000000000000000000) (1) (9292869 / 10000000) (9292869 / 10000000) (9293 / 10000000000000000000) sK' Tk (Ts.const kk4606545491340083669) (by constructor <;> decide +kernel)
  replace Tl1p1 := Tl1p1.sc (S' := K) (by rw [Rat.mul_one])
  obtain ⟨l1s, hl1s, Tl1s⟩ := add_s (96063636888081732019 / 100000000000000000000) (960636368880821225563 / 1000000000000000000000) (9607 / 10000) (1953 / 1000000000000000000) sK Tl1p0 Tl1p1 (by constructor <;> decide +kernel)
  obtain ⟨l1p2, hl1p2, Tl1p2⟩ := mul_s (393636310191805900143 / 10000000000000000000000) (78727262038361494939 / 2000000000000000000000) (544529 / 500000) (3614467 / 100000000) (787273 / 20000000) (7877 / 100000000000000000000) sK' Tz (Ts.const kk4585369816687053158) (by constructor <;> decide +kernel)
  replace Tl1p2 := Tl1p2.sc (S' := K) (by rw [Rat.mul_one])
  obtain ⟨l1r, hl1r, Tl1r⟩ := add_s (249999999974999227551 / 250000000000000000000) (999999999900002973033 / 1000000000000000000000) (1) (379 / 125000000000000000) sK Tl1s Tl1p2 (by constructor <;> decide +kernel)
  obtain ⟨l2p0, hl2p0, Tl2p0⟩ := mul_s (228951524381498988367 / 5000000000000000000000) (114475762190749952087 / 2500000000000000000000) (118807 / 125000) (120443 / 2500000) (4579031 / 100000000) (9159 / 100000000000000000000) sK' Tx (Ts.const kk4587103887212223230) (by constructor <;> decide +kernel)
  replace Tl2p0 := Tl2p0.sc (S' := K) (by rw [Rat.mul_one])
  obtain ⟨l2p1, hl2p1, Tl2p1⟩ := mul_s (264239524944227379681 / 1000000000000000000000) (264239524944227908161 / 1000000000000000000000) (1) (660599 / 2500000) (660599 / 2500000) (2643 / 10000000000000000000) sK' Tk (Ts.const kk4598431736022207442) (by constructor <;> decide +kernel)
  replace Tl2p1 := Tl2p1.sc (S' := K) (by rw [Rat.mul_one])
  obtain ⟨l2s, hl2s, Tl2s⟩ := add_s (155014914910263433627 / 500000000000000000000) (38753728727566024887 / 125000000000000000000) (3101 / 10000) (333 / 500000000000000000) sK Tl2p0 Tl2p1 (by constructor <;> decide +kernel)
  obtain ⟨l2p2, hl2p2, Tl2p2⟩ := mul_s (10780783909054236907 / 15625000000000000000) (34498508508973696097 / 50000000000000000000) (544529 / 500000) (6335479 / 10000000) (1379941 / 2000000) (1381 / 1000000000000000000) sK' Tz (Ts.const kk4603881711049788294) (by constructor <;> decide +kernel)
  replace Tl2p2 := Tl2p2.sc (S' := K) (by rw [Rat.mul_one])
  obtain ⟨l2r, hl2r, Tl2r⟩ := add_s (9999999999999970283 / 10000000000000000000) (25000000000000078051 / 25000000000000000000) (1001 / 1000) (3049 / 1000000000000000000) sK Tl2s Tl2p2 (by constructor <;> decide +kernel)
  obtain ⟨a0, b0⟩ := Tl0r.lohi K0
  replace a0 : (1 - 1 / 1000000000) * K ≤ val l0r := Rat.le_trans (Rat.mul_le_mul_of_nonneg_right (by decide +kernel) (Rat.le_of_lt K0)) a0
  replace b0 : val l0r ≤ (1 + 1 / 1000000000) * K := Rat.le_trans b0 (Rat.mul_le_mul_of_nonneg_right (by decide +kernel) (Rat.le_of_lt K0))
  have u0 : 1 / 10 ^ 30 ≤ val l0r := by
    have : (1 : Rat) / 10 ^ 30 ≤ (1 - 1 / 1000000000) * (1 / 2000000) := by decide +kernel
    grind
  have w0 : val l0r ≤ 10 ^ 30 := by
    have : (1 + 1 / 1000000000) * (1000 : Rat) ≤ 10 ^ 30 := by decide +kernel
    grind
  obtain ⟨c0, C0, fc0, pc0, nc0⟩ := cbrt_ex l0r (bits_lt hl0r) Tl0r.fin u0 w0
  obtain ⟨a1, b1⟩ := Tl1r.lohi K0
  replace a1 : (1 - 1 / 1000000000) * K ≤ val l1r := Rat.le_trans (Rat.mul_le_mul_of_nonneg_right (by decide +kernel) (Rat.le_of_lt K0)) a1
  replace b1 : val l1r ≤ (1 + 1 / 1000000000) * K := Rat.le_trans b1 (Rat.mul_le_mul_of_nonneg_right (by decide +kernel) (Rat.le_of_lt K0))
  have u1 : 1 / 10 ^ 30 ≤ val l1r := by
    have : (1 : Rat) / 10 ^ 30 ≤ (1 - 1 / 1000000000) * (1 / 2000000) := by decide +kernel
    grind
  have w1 : val l1r ≤ 10 ^ 30 := by
    have : (1 + 1 / 1000000000) * (1000 : Rat) ≤ 10 ^ 30 := by decide +kernel
    grind
  obtain ⟨c1, C1, fc1, pc1, nc1⟩ := cbrt_ex l1r (bits_lt hl1r) Tl1r.fin u1 w1
  obtain ⟨a2, b2⟩ := Tl2r.lohi K0
  replace a2 : (1 - 1 / 1000000000) * K ≤ val l2r := Rat.le_trans (Rat.mul_le_mul_of_nonneg_right (by decide +kernel) (Rat.le_of_lt K0)) a2
  replace b2 : val l2r ≤ (1 + 1 / 1000000000) * K := Rat.le_trans b2 (Rat.mul_le_mul_of_nonneg_right (by decide +kernel) (Rat.le_of_lt K0))
  have u2 : 1 / 10 ^ 30 ≤ val l2r := by
    have : (1 : Rat) / 10 ^ 30 ≤ (1 - 1 / 1000000000) * (1 / 2000000) := by decide +kernel
    grind
  have w2 : val l2r ≤ 10 ^ 30 := by
    have : (1 + 1 / 1000000000) * (1000 : Rat) ≤ 10 ^ 30 := by decide +kernel
    grind
  obtain ⟨c2, C2, fc2, pc2, nc2⟩ := cbrt_ex l2r (bits_lt hl2r) Tl2r.fin u2 w2
  obtain ⟨S, hS⟩ : ∃ S, val c1 = S := ⟨_, rfl⟩
  obtain ⟨v0, e0, p0, p0'⟩ := root_near K0 pc0 pc1 a0 b0 a1 b1 nc0 nc1
  obtain ⟨v2, e2, p2, p2'⟩ := root_near K0 pc2 pc1 a2 b2 a1 b1 nc2 nc1
  rw [hS] at pc1 nc1 e0 e2
  have Tc1 := Ts.self fc1 hS
  have Tc0 : Ts c0 S ((999999997 / 1000000000)) ((1000000003 / 1000000000)) 1 ((3 / 1000000000)) := ⟨fc0, v0, e0, Rat.le_trans (by decide +kernel) p0, Rat.le_trans p0' (by decide +kernel), by unfold Near; constructor <;> grind⟩
  have Tc2 : Ts c2 S ((999999997 / 1000000000)) ((1000000003 / 1000000000)) 1 ((3 / 1000000000)) := ⟨fc2, v2, e2, Rat.le_trans (by decide +kernel) p2, Rat.le_trans p2' (by decide +kernel), by unfold Near; constructor <;> grind⟩
  have S3 : (1 - 1 / 500000000) * K ≤ S * S * S ∧ S * S * S ≤ (1 + 1 / 500000000) * K := by
    have ex : val l1r / 10 ^ 13 = val l1r * (1 / 10000000000000) := by grind
    rw [ex] at nc1
    unfold Near at nc1
    constructor <;> grind
  have s1 : 1 / 1000 ≤ S := cube_lo (C := 1 / 3000000) pc1 (by decide +kernel) (by grind) (by decide +kernel)
  have s2 : S ≤ 1000 := cube_hi (C := 2000) pc1 (by decide +kernel) (by grind) (by decide +kernel)
  have sS : Sc S := ⟨Rat.le_trans (by decide +kernel) s1, Rat.le_trans s2 (by decide +kernel)⟩
  have sS' : Sc (S * 1) := by rw [Rat.mul_one]; exact sS
  have sS'' : Sc (1 * S) := by rw [Rat.one_mul]; exact sS
  have sSS : Sc (S * S) := sc120 (sc_mul (Rat.le_trans (by decide +kernel) s1) (Rat.le_trans s2 (by decide +kernel)) (Rat.le_trans (by decide +kernel) s1) (Rat.le_trans s2 (by decide +kernel)))
  have z1 : (1 : Rat) / 10 ^ 250 ≤ (1 - 1 / 500000000) * (1 / 2000000) := by decide +kernel
  have z2 : (1 + 1 / 500000000) * (1000 : Rat) ≤ 10 ^ 250 := by decide +kernel
  have sSSS : Sc (S * S * S) := ⟨by grind, by grind⟩
  clear z1 z2
  obtain ⟨m0p0, hm0p0, Tm0p0⟩ := mul_s (26306781833579628431 / 125000000000000000000) (105227127965681490079 / 500000000000000000000) (1000001 / 1000000) (2104543 / 10000000) (1052273 / 5000000) (3157 / 5000000000000) sS' Tc0 (Ts.const kk4596750433936516346) (by constructor <;> decide +kernel)
  replace Tm0p0 := Tm0p0.sc (S' := S) (by rw [Rat.mul_one])
  obtain ⟨m0p1, hm0p1, Tm0p1⟩ := mul_s (396808892499999613197 / 500000000000000000000) (793617785000000813631 / 1000000000000000000000) (1) (3968089 / 5000000) (3968089 / 5000000) (7937 / 10000000000000000000) sS' Tc1 (Ts.const kk4605323493066877613) (by constructor <;> decide +kernel)
  replace Tm0p1 := Tm0p1.sc (S' := S) (by rw [Rat.mul_one])
  obtain ⟨m0s, hm0s, Tm0s⟩ := add_s (25101800991715881221 / 25000000000000000000) (100407204093136479879 / 100000000000000000000) (201 / 200) (1263 / 2000000000000) sS Tm0p0 Tm0p1 (by constructor <;> decide +kernel)
  obtain ⟨m0p2, hm0p2, Tm0p2⟩ := mul_s (-(40720468122161440499 / 10000000000000000000000)) (-(407204678778385510579 / 100000000000000000000000)) (1000001 / 1000000) (4072047 / 1000000000) (1018013 / 250000000) (611 / 50000000000000) sS' Tc2 (Ts.const kk13794716809331944248) (by constructor <;> decide +kernel)
  replace Tm0p2 := Tm0p2.sc (S' := S) (by rw [Rat.mul_one])
  obtain ⟨m0r, hm0r, Tm0r⟩ := add_s (99999999285641810479 / 100000000000000000000) (199999998828716388737 / 200000000000000000000) (1) (3219 / 5000000000000) sS Tm0s Tm0p2 (by constructor <;> decide +kernel)
  obtain ⟨m1p0, hm1p0, Tm1p0⟩ := mul_s (197799848916600256819 / 100000000000000000000) (197799850103399749481 / 100000000000000000000) (1000001 / 1000000) (1977999 / 1000000) (1978001 / 1000000) (2967 / 500000000000) sS' Tc0 (Ts.const kk4611586932458118674) (by constructor <;> decide +kernel)
  replace Tm1p0 := Tm1p0.sc (S' := S) (by rw [Rat.mul_one])
  obtain ⟨m1p1, hm1p1, Tm1p1⟩ := mul_s (-(2428592205000002599 / 1000000000000000000)) (-(12142961024999988709 / 5000000000000000000)) (1) (2428593 / 1000000) (2428593 / 1000000) (2429 / 1000000000000000000) sS' Tc1 (Ts.const kk13836023159129529662) (by constructor <;> decide +kernel)
  replace Tm1p1 := Tm1p1.sc (S' := S) (by rw [Rat.mul_one])
  obtain ⟨m1s, hm1s, Tm1s⟩ := add_s (-(450593715834000481411 / 1000000000000000000000)) (-(450593703965999796389 / 1000000000000000000000)) (2253 / 5000) (1187 / 200000000000) sS Tm1p0 Tm1p1 (by constructor <;> decide +kernel)
  obtain ⟨m1p2, hm1p2, Tm1p2⟩ := mul_s (450593708548218392073 / 1000000000000000000000) (450593711251781552663 / 1000000000000000000000) (1000001 / 1000000) (2252969 / 5000000) (4505943 / 10000000) (169 / 125000000000) sS' Tc2 (Ts.const kk4601788794573910437) (by constructor <;> decide +kernel)
  replace Tm1p2 := Tm1p2.sc (S' := S) (by rw [Rat.mul_one])
  obtain ⟨m1r, hm1r, Tm1r⟩ := add_s (-(728578208933800728601 / 100000000000000000000000000000)) (728578175627400728601 / 100000000000000000000000000000) (3643 / 500000000000) (911 / 125000000000) sS Tm1s Tm1p2 (by constructor <;> decide +kernel)
  obtain ⟨m2p0, hm2p0, Tm2p0⟩ := mul_s (4047505784732478429 / 156250000000000000000) (129520185888560681769 / 5000000000000000000000) (1000001 / 1000000) (647601 / 25000000) (2590407 / 100000000) (1943 / 25000000000000) sS' Tc0 (Ts.const kk4583123551765604832) (by constructor <;> decide +kernel)
  replace Tm2p0 := Tm2p0.sc (S' := S) (by rw [Rat.mul_one])
  obtain ⟨m2p1, hm2p1, Tm2p1⟩ := mul_s (48923235387499950859 / 62500000000000000000) (97846470775000097411 / 125000000000000000000) (1) (3913859 / 5000000) (3913859 / 5000000) (1957 / 2500000000000000000) sS' Tc1 (Ts.const kk4605225800814425346) (by constructor <;> decide +kernel)
  replace Tm2p1 := Tm2p1.sc (S' := S) (by rw [Rat.mul_one])
  obtain ⟨m2s, hm2s, Tm2s⟩ := add_s (808675803222286266989 / 1000000000000000000000) (404337901688856862171 / 500000000000000000000) (8087 / 10000) (7773 / 100000000000000) sS Tm2p0 Tm2p1 (by constructor <;> decide +kernel)
  obtain ⟨m2p2, hm2p2, Tm2p2⟩ := mul_s (-(50542235526626757797 / 62500000000000000000)) (-(808675763573971911397 / 1000000000000000000000)) (1000001 / 1000000) (4043379 / 5000000) (8086767 / 10000000) (2427 / 1000000000000) sS' Tc2 (Ts.const kk13828831160156894525) (by constructor <;> decide +kernel)
  replace Tm2p2 := Tm2p2.sc (S' := S) (by rw [Rat.mul_one])
  obtain ⟨m2r, hm2r, Tm2r⟩ := add_s (347962581422369601899 / 10000000000000000000000000000) (398037418129450398101 / 10000000000000000000000000000) (3981 / 100000000000) (501 / 200000000000) sS Tm2s Tm2p2 (by constructor <;> decide +kernel)
  obtain ⟨q2, hq2, Tq2⟩ := mul_s (99999998571283526061 / 100000000000000000000) (249999997071791230417 / 250000000000000000000) (1) (1) (1) (161 / 125000000000) sSS Tm0r Tm0r (by constructor <;> decide +kernel)
  obtain ⟨q3, hq3, Tq3⟩ := mul_s (999999978569252467461 / 1000000000000000000000) (999999982430747933949 / 1000000000000000000000) (1) (1) (1) (483 / 250000000000) sSSS Tq2 Tm0r (by constructor <;> decide +kernel)
  have eR : S * S * S / K * K = S * S * S := Rat.div_mul_cancel (by grind)
  have R1 : 1 - 1 / 500000000 ≤ S * S * S / K := le_div K0 S3.1
  have R2 : S * S * S / K ≤ 1 + 1 / 500000000 := div_le K0 S3.2
  generalize hR : S * S * S / K = R at *
  have Tq3' : Ts q3 K ((999999878569252467461 / 1000000000000000000000)) ((1000000082430747933949 / 1000000000000000000000)) ((199999996100000040141 / 200000000000000000000)) ((25482686933311 / 250000000000000000000)) := by
    obtain ⟨fq, v, qv, w1, w2, w3⟩ := Tq3
    have hv : Abs v (11 / 10) := ⟨by grind, by grind⟩
    have hn : Near (v * R) v (11 / 10 * (1 / 500000000) + (0 : Rat)) := by
      have := abs_mul hv (show Abs (R - 1) (1 / 500000000) from ⟨by grind, by grind⟩)
      unfold Abs at this; unfold Near; constructor <;> grind
    refine ⟨fq, v * R, by rw [qv, ← eR]; grind, by unfold Near at hn; grind, by unfold Near at hn; grind, ?_⟩
    have n1 : Near v ((199999996100000040141 / 200000000000000000000)) ((482686933311 / 250000000000000000000)) := by unfold Near at w3 ⊢; grind
    exact near_mono (near_trans hn n1) (by decide +kernel)
  obtain ⟨t, ht, Tt⟩ := mul_s (4999999999999995409 / 500000000000000000000000) (100000000000000108181 / 10000000000000000000000000) (1000001 / 100000000000) (1) (1000001 / 100000000000) (1001 / 100000000000000000000000) sK'' (Ts.const kk4532020583610935537) Tk (by constructor <;> decide +kernel)
  replace Tt := Tt.sc (S' := K) (by rw [Rat.one_mul])
  obtain ⟨d, hd, Td⟩ := sub_s (-(121430747532539121501 / 1000000000000000000000000000)) (824307479339491215001 / 10000000000000000000000000000) (243 / 2000000000) (51 / 500000000) sK Tq3' Tk (by constructor <;> decide +kernel)
  obtain ⟨u, hu, Tu⟩ := mul_s (31249999776763037081 / 3125000000000000000000000) (99999999414358302549 / 10000000000000000000000000) (1000001 / 100000000000) (1) (1000001 / 100000000000) (6439 / 1000000000000000000) sS'' (Ts.const kk4532020583610935537) Tm0r (by constructor <;> decide +kernel)
  replace Tu := Tu.sc (S' := S) (by rw [Rat.one_mul])
  have S0 := sS.pos
  obtain ⟨i1, i2⟩ := Tt.lohi K0
  obtain ⟨j1, j2⟩ := Td.lohi K0
  obtain ⟨n1, n2⟩ := Tu.lohi S0
  obtain ⟨x1, x2⟩ := Tm0r.lohi S0
  obtain ⟨y1, y2⟩ := Tm1r.lohi S0
  obtain ⟨z1, z2⟩ := Tm2r.lohi S0
  refine ⟨x, z, m0r, m1r, m2r, q2, q3, t, d, u, hx, hz, ⟨l0r, l1r, l2r, c0, c1, c2, ⟨l0p0, l0p1, l0s, l0p2, hl0p0, hl0p1, hl0s, hl0p2, hl0r⟩, ⟨l1p0, l1p1, l1s, l1p2, hl1p0, hl1p1, hl1s, hl1p2, hl1r⟩, ⟨l2p0, l2p1, l2s, l2p2, hl2p0, hl2p1, hl2s, hl2p2, hl2r⟩, C0, C1, C2, ⟨m0p0, m0p1, m0s, m0p2, hm0p0, hm0p1, hm0s, hm0p2, hm0r⟩, ⟨m1p0, m1p1, m1s, m1p2, hm1p0, hm1p1, hm1s, hm1p2, hm1r⟩, ⟨m2p0, m2p1, m2s, m2p2, hm2p0, hm2p1, hm2s, hm2p2, hm2r⟩⟩, (gtB_iff Tm0r.fin zero_fin.1).2 ?_, hq2, hq3, ht, hd, ?_, hu, ?_, ?_⟩
  · rw [zero_fin.2]; grind
  · exact abs_le_abs (bits_lt hd) Td.fin Tt.fin (T := 9 / 1000000 * K) (by grind) (by grind) (by grind)
  · exact abs_le_abs (bits_lt hm1r) Tm1r.fin Tu.fin (T := 9 / 1000000 * S) (by grind) (by grind) (by grind)
  · exact abs_le_abs (bits_lt hm2r) Tm2r.fin Tu.fin (T := 9 / 1000000 * S) (by grind) (by grind) (by grind)
end Go.Proofs.Ytpjbhbbhkhfiaaa

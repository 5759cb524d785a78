/- Proved: for all float64 x, y, z the law FnXyzToLinP3IsInverseOfLinP3ToXyz returns true, and its arguments read afterwards as before. No condition. -/
import Derived.Test.YtgflhgjigfpgiaaMat
import Derived.ShutString
namespace Go.Proofs.Ytgflhgjigfpgiaa.fnXyzToLinP3IsInverseOfLinP3ToXyz
open Go.ChangeShapes Go.WideShapes Go.ChangeAt Go.RowKit Go.Sort
open Go.ChangeMaps (open_string shut_string)
open Flt
set_option linter.unusedVariables false
theorem b2 (x : Bool) : x = true ∨ x = false := by cases x <;> simp
theorem ret_bool {a b : Bool} (h : a = b) : Ending.returned (.bool a) = .returned (.bool b) := by rw [h]
theorem ret_fl {k : FloatKind} {a b : Nat} (h : a = b) : Ending.returned (.float k a) = .returned (.float k b) := by rw [h]
theorem neg_fl (x : Nat) (w : World) : (Op.unary .neg (.float .f64 x)).run Try.prog w = .ok (.float .f64 (negB x)) w := rfl
theorem c1000 : (10 : Rat) ^ 301 ≤ two 1000 ∧ two 1000 < two 1022 := by unfold two; decide +kernel
/-- the difference of two words that lie close, held against a tolerance -/
theorem close_ok (x2 x t : Nat) (f2 : fin x2) (fx : fin x) (ft : fin t) (E : Rat) (hE : E ≤ two 1000) (n : Near (val x2) (val x) E) (ht : 2 * E + 2 * eta ≤ val t) :
    ∃ d, floatBits .sub .f64 x2 x = some d ∧ leB (absB d) t = true := by
  have T := t1000
  have e0 := eta_pos
  unfold Near at n
  obtain ⟨d, fd, gd, nd⟩ := sub_near x2 x f2 fx E (by grind) (by grind) (by grind)
  refine ⟨d, fd, ?_⟩
  obtain ⟨ga, g0, g1, g2⟩ := absB_val (bits_lt fd) gd
  rw [leB_iff ga ft]
  unfold Near at nd
  rw [uu_val] at nd
  rcases g2 with g2 | g2 <;> grind
def maxB (a b : Nat) : Nat := if gtB b a then b else a
theorem maxB_val {a b : Nat} (ha : fin a) (hb : fin b) : fin (maxB a b) ∧ val a ≤ val (maxB a b) ∧ val b ≤ val (maxB a b) ∧ (val (maxB a b) = val a ∨ val (maxB a b) = val b) := by
  have := gtB_iff hb ha
  unfold maxB
  by_cases h : gtB b a = true
  · rw [if_pos h]
    have := this.1 h
    exact ⟨hb, by grind, Rat.le_refl, Or.inr rfl⟩
  · rw [if_neg h]
    have : ¬ val a < val b := fun c => h (this.2 c)
    exact ⟨ha, Rat.le_refl, by grind, Or.inl rfl⟩
theorem abs_of_le {a b c : Rat} (h : Abs a b) (h2 : b ≤ c) : Abs a c := by unfold Abs at *; grind
theorem k4612797274681751849 : fin 4612797274681751849 ∧ val 4612797274681751849 = 5614855881734441 / 2251799813685248 := const_val (by decide +kernel) (by decide +kernel)
theorem k13829936414229251323 : fin 13829936414229251323 ∧ val 13829936414229251323 = -8389157829199099 / 9007199254740992 := const_val (by decide +kernel) (by decide +kernel)
theorem k13824298249327843042 : fin 13824298249327843042 ∧ val 13824298249327843042 = -3627296277580657 / 9007199254740992 := const_val (by decide +kernel) (by decide +kernel)
theorem k13829018628828503116 : fin 13829018628828503116 ∧ val 13829018628828503116 = -1867843107112723 / 2251799813685248 := const_val (by decide +kernel) (by decide +kernel)
theorem k4610617152377875984 : fin 4610617152377875984 ∧ val 4610617152377875984 = 496145825326817 / 281474976710656 := const_val (by decide +kernel) (by decide +kernel)
theorem k4582466573495113356 : fin 4582466573495113356 ∧ val 4582466573495113356 = 1702338021672355 / 72057594037927936 := const_val (by decide +kernel) (by decide +kernel)
theorem k4585326749603112614 : fin 4585326749603112614 ∧ val 4585326749603112614 = 2582964283659091 / 72057594037927936 := const_val (by decide +kernel) (by decide +kernel)
theorem k13813525256620716304 : fin 13813525256620716304 ∧ val 13813525256620716304 = -343049943923473 / 4503599627370496 := const_val (by decide +kernel) (by decide +kernel)
theorem k4606794069116791646 : fin 4606794069116791646 ∧ val 4606794069116791646 = 4309424785757615 / 4503599627370496 := const_val (by decide +kernel) (by decide +kernel)
theorem k4602436902889991582 : fin 4602436902889991582 ∧ val 4602436902889991582 = 4382641486042831 / 9007199254740992 := const_val (by decide +kernel) (by decide +kernel)
theorem k4598457463613748745 : fin 4598457463613748745 ∧ val 4598457463613748745 = 4785843695842825 / 18014398509481984 := const_val (by decide +kernel) (by decide +kernel)
theorem k4596309550625894354 : fin 4596309550625894354 ∧ val 4596309550625894354 = 3570765167679465 / 18014398509481984 := const_val (by decide +kernel) (by decide +kernel)
theorem k4597417698381910165 : fin 4597417698381910165 ∧ val 4597417698381910165 = 8249678091374741 / 36028797018963968 := const_val (by decide +kernel) (by decide +kernel)
theorem k4604405846243637830 : fin 4604405846243637830 ∧ val 4604405846243637830 = 3115313349180707 / 4503599627370496 := const_val (by decide +kernel) (by decide +kernel)
theorem k4590377644931452072 : fin 4590377644931452072 ∧ val 4590377644931452072 = 714153033535893 / 9007199254740992 := const_val (by decide +kernel) (by decide +kernel)
theorem k0 : fin 0 ∧ val 0 = 0 := const_val (by decide +kernel) (by decide +kernel)
theorem k4586662344547128081 : fin 4586662344547128081 ∧ val 4586662344547128081 = 6501523511333649 / 144115188075855872 := const_val (by decide +kernel) (by decide +kernel)
theorem k4607380326643424874 : fin 4607380326643424874 ∧ val 4607380326643424874 = 2350753735388981 / 2251799813685248 := const_val (by decide +kernel) (by decide +kernel)
set_option maxHeartbeats 4000000 in
theorem inv_m (x y z : Nat) (fx : fin x) (fy : fin y) (fz : fin z) (B : Rat) (hx : Abs (val x) B) (hy : Abs (val y) B) (hz : Abs (val z) B) (hB : B ≤ 10 ^ 300) :
    ∃ r0 r1 r2 s0 s1 s2 : Nat, Row 4612797274681751849 13829936414229251323 13824298249327843042 x y z r0 ∧ Row 13829018628828503116 4610617152377875984 4582466573495113356 x y z r1 ∧ Row 4585326749603112614 13813525256620716304 4606794069116791646 x y z r2 ∧ Row 4602436902889991582 4598457463613748745 4596309550625894354 r0 r1 r2 s0 ∧ Row 4597417698381910165 4604405846243637830 4590377644931452072 r0 r1 r2 s1 ∧ Row 0 4586662344547128081 4607380326643424874 r0 r1 r2 s2 ∧ fin s0 ∧ fin s1 ∧ fin s2 ∧ Near (val s0) (val x) (B / 10 ^ 12 + 1000 * eta) ∧ Near (val s1) (val y) (B / 10 ^ 12 + 1000 * eta) ∧ Near (val s2) (val z) (B / 10 ^ 12 + 1000 * eta) := by
  have T := c1000.1
  have e0 := eta_pos
  have e1 : eta ≤ 1 / 10 ^ 10 := by have := eta_small; grind
  have B0 : 0 ≤ B := by unfold Abs at hx; grind
  have BB : B ≤ two 1000 := by grind
  obtain ⟨p0, q0⟩ := k4612797274681751849
  obtain ⟨p1, q1⟩ := k13829936414229251323
  obtain ⟨p2, q2⟩ := k13824298249327843042
  obtain ⟨p3, q3⟩ := k13829018628828503116
  obtain ⟨p4, q4⟩ := k4610617152377875984
  obtain ⟨p5, q5⟩ := k4582466573495113356
  obtain ⟨p6, q6⟩ := k4585326749603112614
  obtain ⟨p7, q7⟩ := k13813525256620716304
  obtain ⟨p8, q8⟩ := k4606794069116791646
  obtain ⟨c0, v0⟩ := k4602436902889991582
  obtain ⟨c1, v1⟩ := k4598457463613748745
  obtain ⟨c2, v2⟩ := k4596309550625894354
  obtain ⟨c3, v3⟩ := k4597417698381910165
  obtain ⟨c4, v4⟩ := k4604405846243637830
  obtain ⟨c5, v5⟩ := k4590377644931452072
  obtain ⟨c6, v6⟩ := k0
  obtain ⟨c7, v7⟩ := k4586662344547128081
  obtain ⟨c8, v8⟩ := k4607380326643424874
  obtain ⟨r0, R0, g0, n0⟩ := row_near _ _ _ x y z p0 p1 p2 fx fy fz (by rw [q0]; unfold Abs; grind) (by rw [q1]; unfold Abs; grind) (by rw [q2]; unfold Abs; grind) B hx hy hz BB
  unfold Near at n0
  simp only [q0, q1, q2, uu_val] at n0
  obtain ⟨r1, R1, g1, n1⟩ := row_near _ _ _ x y z p3 p4 p5 fx fy fz (by rw [q3]; unfold Abs; grind) (by rw [q4]; unfold Abs; grind) (by rw [q5]; unfold Abs; grind) B hx hy hz BB
  unfold Near at n1
  simp only [q3, q4, q5, uu_val] at n1
  obtain ⟨r2, R2, g2, n2⟩ := row_near _ _ _ x y z p6 p7 p8 fx fy fz (by rw [q6]; unfold Abs; grind) (by rw [q7]; unfold Abs; grind) (by rw [q8]; unfold Abs; grind) B hx hy hz BB
  unfold Near at n2
  simp only [q6, q7, q8, uu_val] at n2
  have X := hx; have Y := hy; have Z := hz
  unfold Abs at X Y Z
  have b0 : Abs (val r0) (6 * B + 20 * eta) := by unfold Abs; constructor <;> grind
  have b1 : Abs (val r1) (6 * B + 20 * eta) := by unfold Abs; constructor <;> grind
  have b2 : Abs (val r2) (6 * B + 20 * eta) := by unfold Abs; constructor <;> grind
  have B2 : 6 * B + 20 * eta ≤ two 1000 := by grind
  obtain ⟨s0, S0, h0, m0⟩ := row_near _ _ _ r0 r1 r2 c0 c1 c2 g0 g1 g2 (by rw [v0]; unfold Abs; grind) (by rw [v1]; unfold Abs; grind) (by rw [v2]; unfold Abs; grind) _ b0 b1 b2 B2
  unfold Near at m0
  simp only [v0, v1, v2, uu_val] at m0
  obtain ⟨s1, S1, h1, m1⟩ := row_near _ _ _ r0 r1 r2 c3 c4 c5 g0 g1 g2 (by rw [v3]; unfold Abs; grind) (by rw [v4]; unfold Abs; grind) (by rw [v5]; unfold Abs; grind) _ b0 b1 b2 B2
  unfold Near at m1
  simp only [v3, v4, v5, uu_val] at m1
  obtain ⟨s2, S2, h2, m2⟩ := row_near _ _ _ r0 r1 r2 c6 c7 c8 g0 g1 g2 (by rw [v6]; unfold Abs; grind) (by rw [v7]; unfold Abs; grind) (by rw [v8]; unfold Abs; grind) _ b0 b1 b2 B2
  unfold Near at m2
  simp only [v6, v7, v8, uu_val] at m2
  clear b0 b1 b2
  refine ⟨r0, r1, r2, s0, s1, s2, R0, R1, R2, S0, S1, S2, h0, h1, h2, ?_, ?_, ?_⟩
  · clear m1 m2; unfold Near; constructor <;> grind
  · clear m0 m2; unfold Near; constructor <;> grind
  · clear m0 m1; unfold Near; constructor <;> grind
theorem k7598952565167317594 : fin 7598952565167317594 ∧ val 7598952565167317594 ≤ 10 ^ 201 := ⟨fin_of (by decide +kernel), by decide +kernel⟩
theorem k16822324602022093402 : fin 16822324602022093402 ∧ -(10 ^ 201) ≤ val 16822324602022093402 := ⟨fin_of (by decide +kernel), by decide +kernel⟩
theorem k300 : fin 118622047889322841 ∧ 10 ^ 15 * eta ≤ val 118622047889322841 ∧ val 118622047889322841 ≤ 1 := ⟨fin_of (by decide +kernel), by unfold eta; decide +kernel, by decide +kernel⟩
theorem k4472406533629990549 : fin 4472406533629990549 ∧ val 4472406533629990549 = 4835703278458517 / 4835703278458516698824704 := const_val (by decide +kernel) (by decide +kernel)
theorem abs_c (x : Nat) (w : World) : Calls Try.prog 20 #[.float .f64 x] w fun e w' => e = .returned (.float .f64 (absB x)) ∧ w = w' := by
  have hn := neg_fl
  go_enter Try.func20, Try.ntmps20
  go_wp2
  · go_ret
    exact ⟨ret_fl (by unfold absB ltB; rw [if_pos ‹_›]), rfl⟩
  · go_ret
    exact ⟨ret_fl (by unfold absB ltB; rw [if_neg (by simp [*])]), rfl⟩
set_option maxRecDepth 100000 in
theorem in_c (x : Nat) (w : World) : Calls Try.prog 17 #[.float .f64 x] w fun e w' => e = .returned (.bool (eqB x x && leB x 7598952565167317594 && geB x 16822324602022093402)) ∧ w = w' := by
  go_enter Try.func17, Try.ntmps17
  go_wp2
  all_goals
    go_ret
    exact ⟨ret_bool (by unfold geB leB eqB; simp [*]), rfl⟩
set_option maxRecDepth 100000 in
set_option maxHeartbeats 1000000 in
theorem law_no (x y z : Nat) (w : World) (h : ((eqB x x && leB x 7598952565167317594 && geB x 16822324602022093402) && (eqB y y && leB y 7598952565167317594 && geB y 16822324602022093402) && (eqB z z && leB z 7598952565167317594 && geB z 16822324602022093402)) = false) :
    Calls Try.prog 5 #[.float .f64 x, .float .f64 y, .float .f64 z] w fun e w' => e = .returned (.bool true) ∧ Below w.heap.size w w' := by
  rcases b2 (eqB x x && leB x 7598952565167317594 && geB x 16822324602022093402) with h1 | h1
  · rcases b2 (eqB y y && leB y 7598952565167317594 && geB y 16822324602022093402) with h2 | h2
    · rcases b2 (eqB z z && leB z 7598952565167317594 && geB z 16822324602022093402) with h3 | h3
      · rw [h1, h2, h3] at h; cases h
      · clear h
        go_enter Try.func5, Try.ntmps5
        go_wp2_with (go_at_call 17; refine (in_c _ _).mono ?_; rintro e w' ⟨rfl, rfl⟩)
        go_ret
        exact ⟨rfl, Below.refl _ _⟩
    · clear h
      go_enter Try.func5, Try.ntmps5
      go_wp2_with (go_at_call 17; refine (in_c _ _).mono ?_; rintro e w' ⟨rfl, rfl⟩)
      go_ret
      exact ⟨rfl, Below.refl _ _⟩
  · clear h
    go_enter Try.func5, Try.ntmps5
    go_wp2_with (go_at_call 17; refine (in_c _ _).mono ?_; rintro e w' ⟨rfl, rfl⟩)
    go_ret
    exact ⟨rfl, Below.refl _ _⟩
set_option maxRecDepth 100000 in
set_option maxHeartbeats 1000000 in
theorem law_yes (x y z r0 r1 r2 s0 s1 s2 u0 u1 t0 t d0 d1 d2 : Nat) (w : World) (i0 : (eqB x x && leB x 7598952565167317594 && geB x 16822324602022093402) = true) (i1 : (eqB y y && leB y 7598952565167317594 && geB y 16822324602022093402) = true) (i2 : (eqB z z && leB z 7598952565167317594 && geB z 16822324602022093402) = true)
    (h0 : Row 4612797274681751849 13829936414229251323 13824298249327843042 x y z r0) (h1 : Row 13829018628828503116 4610617152377875984 4582466573495113356 x y z r1) (h2 : Row 4585326749603112614 13813525256620716304 4606794069116791646 x y z r2) (g0 : Row 4602436902889991582 4598457463613748745 4596309550625894354 r0 r1 r2 s0) (g1 : Row 4597417698381910165 4604405846243637830 4590377644931452072 r0 r1 r2 s1) (g2 : Row 0 4586662344547128081 4607380326643424874 r0 r1 r2 s2)
    (hu0 : floatBits .add .f64 (absB x) (absB y) = some u0) (hu1 : floatBits .add .f64 u0 (absB z) = some u1)
    (ht0 : floatBits .mul .f64 4472406533629990549 u1 = some t0) (ht : floatBits .add .f64 t0 118622047889322841 = some t)
    (hd0 : floatBits .sub .f64 s0 x = some d0) (hd1 : floatBits .sub .f64 s1 y = some d1) (hd2 : floatBits .sub .f64 s2 z = some d2)
    (l0 : leB (absB d0) t = true) (l1 : leB (absB d1) t = true) (l2 : leB (absB d2) t = true) :
    Calls Try.prog 5 #[.float .f64 x, .float .f64 y, .float .f64 z] w fun e w' => e = .returned (.bool true) ∧ Below w.heap.size w w' := by
  have k1 := fun w => run_float_arith (P := Try.prog) w .add 22 .f64 _ _ _ hu0
  have k2 := fun w => run_float_arith (P := Try.prog) w .add 22 .f64 _ _ _ hu1
  have k3 := fun w => run_float_arith (P := Try.prog) w .mul 22 .f64 _ _ _ ht0
  have k4 := fun w => run_float_arith (P := Try.prog) w .add 22 .f64 _ _ _ ht
  have k5 := fun w => run_float_arith (P := Try.prog) w .sub 22 .f64 _ _ _ hd0
  have k6 := fun w => run_float_arith (P := Try.prog) w .sub 22 .f64 _ _ _ hd1
  have k7 := fun w => run_float_arith (P := Try.prog) w .sub 22 .f64 _ _ _ hd2
  have l0' : (FloatKind.f64.format.order (absB d0) t == some .lt || FloatKind.f64.format.order (absB d0) t == some .eq) = true := l0
  have l1' : (FloatKind.f64.format.order (absB d1) t == some .lt || FloatKind.f64.format.order (absB d1) t == some .eq) = true := l1
  have l2' : (FloatKind.f64.format.order (absB d2) t == some .lt || FloatKind.f64.format.order (absB d2) t == some .eq) = true := l2
  have H0 := Lib.hid h0; have H1 := Lib.hid h1; have H2 := Lib.hid h2
  have G0 := Lib.hid g0; have G1 := Lib.hid g1; have G2 := Lib.hid g2
  clear h0 h1 h2 g0 g1 g2 ht0 ht hd0 hd1 hd2 hu0 hu1 l0 l1 l2
  go_enter Try.func5, Try.ntmps5
  go_wp2_with (first | (go_at_call 17; refine (in_c _ _).mono ?_; rintro e w' ⟨rfl, rfl⟩) | (go_at_call 18; (with_reducible refine (ZZxyzToLinP3_n011_83_c _ _ _ _ _ _ _ H0.out H1.out H2.out).mono ?_); rintro e w' ⟨rfl, hb⟩) | (go_at_call 19; (with_reducible refine (ZZlinP3ToXyz_n011_83_c _ _ _ _ _ _ _ G0.out G1.out G2.out).mono ?_); rintro e w2 ⟨rfl, hb2⟩; replace hb := hb.trans (hb2.mono hb.size); clear hb2) | (go_at_call 20; refine (abs_c _ _).mono ?_; rintro e w' ⟨rfl, rfl⟩))
  go_ret
  exact ⟨rfl, hb⟩
theorem tame {x : Nat} (wx : x < 2 ^ 64) (h : (eqB x x && leB x 7598952565167317594 && geB x 16822324602022093402) = true) : fin x ∧ val (absB x) ≤ 10 ^ 201 := by
  rw [Bool.and_eq_true, Bool.and_eq_true] at h
  obtain ⟨fl, vl⟩ := k16822324602022093402
  obtain ⟨fh, vh⟩ := k7598952565167317594
  have fx := fin_of_between fl fh h.2 h.1.2
  have bx1 := (geB_iff fx fl).1 h.2
  have bx2 := (leB_iff fx fh).1 h.1.2
  obtain ⟨fa, a0, a1, a2⟩ := absB_val wx fx
  refine ⟨fx, ?_⟩
  rcases a2 with e | e <;> grind
theorem plain (x y z : Nat) (wx : x < 2 ^ 64) (wy : y < 2 ^ 64) (wz : z < 2 ^ 64) (i0 : (eqB x x && leB x 7598952565167317594 && geB x 16822324602022093402) = true) (i1 : (eqB y y && leB y 7598952565167317594 && geB y 16822324602022093402) = true) (i2 : (eqB z z && leB z 7598952565167317594 && geB z 16822324602022093402) = true) :
    ∃ r0 r1 r2 s0 s1 s2 u0 u1 t0 t d0 d1 d2 : Nat, Row 4612797274681751849 13829936414229251323 13824298249327843042 x y z r0 ∧ Row 13829018628828503116 4610617152377875984 4582466573495113356 x y z r1 ∧ Row 4585326749603112614 13813525256620716304 4606794069116791646 x y z r2 ∧ Row 4602436902889991582 4598457463613748745 4596309550625894354 r0 r1 r2 s0 ∧ Row 4597417698381910165 4604405846243637830 4590377644931452072 r0 r1 r2 s1 ∧ Row 0 4586662344547128081 4607380326643424874 r0 r1 r2 s2 ∧
    floatBits .add .f64 (absB x) (absB y) = some u0 ∧ floatBits .add .f64 u0 (absB z) = some u1 ∧ floatBits .mul .f64 4472406533629990549 u1 = some t0 ∧ floatBits .add .f64 t0 118622047889322841 = some t ∧
    floatBits .sub .f64 s0 x = some d0 ∧ floatBits .sub .f64 s1 y = some d1 ∧ floatBits .sub .f64 s2 z = some d2 ∧
    leB (absB d0) t = true ∧ leB (absB d1) t = true ∧ leB (absB d2) t = true := by
  obtain ⟨fx, ux⟩ := tame wx i0
  obtain ⟨fy, uy⟩ := tame wy i1
  obtain ⟨fz, uz⟩ := tame wz i2
  obtain ⟨ax, x0, x1, -⟩ := absB_val wx fx
  obtain ⟨ay, y0, y1, -⟩ := absB_val wy fy
  obtain ⟨az, z0, z1, -⟩ := absB_val wz fz
  have e0 := eta_pos
  have e1 : eta ≤ 1 / 10 ^ 30 := by have := eta_small; grind
  have T := c1000.1
  have T2 := c1000.2
  have T3 := t1000
  obtain ⟨r0, r1, r2, s0, s1, s2, R0, R1, R2, S0, S1, S2, f0, f1, f2, n0, n1, n2⟩ := inv_m x y z fx fy fz (val (absB x) + val (absB y) + val (absB z)) (abs_of_le x1 (by grind)) (abs_of_le y1 (by grind)) (abs_of_le z1 (by grind)) (by grind)
  obtain ⟨u0, fu0, gu0, nu0⟩ := add_near _ _ ax ay (val (absB x) + val (absB y) + val (absB z)) (by grind) (by grind) (by grind)
  unfold Near at nu0
  rw [uu_val] at nu0
  obtain ⟨u1, fu1, gu1, nu1⟩ := add_near _ _ gu0 az (2 * (val (absB x) + val (absB y) + val (absB z)) + 10 * eta) (by grind) (by grind) (by grind)
  unfold Near at nu1
  rw [uu_val] at nu1
  obtain ⟨k2, v2⟩ := k4472406533629990549
  obtain ⟨k3, v3, v3'⟩ := k300
  obtain ⟨t0, ft0, gt0, nt0⟩ := mul_near _ u1 k2 gu1 (2 * (val (absB x) + val (absB y) + val (absB z)) + 20 * eta) (by rw [v2]; grind) (by rw [v2]; grind) (by grind)
  unfold Near at nt0
  rw [v2, uu_val] at nt0
  obtain ⟨t, ft, gt, nt⟩ := add_near t0 _ gt0 k3 ((val (absB x) + val (absB y) + val (absB z)) + 2 * val 118622047889322841) (by grind) (by grind) (by grind)
  unfold Near at nt
  rw [uu_val] at nt
  have ht : 2 * ((val (absB x) + val (absB y) + val (absB z)) / 10 ^ 12 + 1000 * eta) + 2 * eta ≤ val t := by grind
  obtain ⟨d0, fd0, l0⟩ := close_ok s0 x t f0 fx gt _ (by grind) n0 ht
  obtain ⟨d1, fd1, l1⟩ := close_ok s1 y t f1 fy gt _ (by grind) n1 ht
  obtain ⟨d2, fd2, l2⟩ := close_ok s2 z t f2 fz gt _ (by grind) n2 ht
  exact ⟨r0, r1, r2, s0, s1, s2, u0, u1, t0, t, d0, d1, d2, R0, R1, R2, S0, S1, S2, fu0, fu1, ft0, ft, fd0, fd1, fd2, l0, l1, l2⟩
theorem walk (a0 : Nat) (a1 : Nat) (a2 : Nat) (w0 : (Lit.float .f64 a0).wf = true) (w1 : (Lit.float .f64 a1).wf = true) (w2 : (Lit.float .f64 a2).wf = true) (w : World) :
    Calls Try.prog 5 #[.float .f64 a0, .float .f64 a1, .float .f64 a2] w fun e w' => e = .returned (.bool true) ∧ Below w.heap.size w w' := by
  by_cases h : ((eqB a0 a0 && leB a0 7598952565167317594 && geB a0 16822324602022093402) && (eqB a1 a1 && leB a1 7598952565167317594 && geB a1 16822324602022093402) && (eqB a2 a2 && leB a2 7598952565167317594 && geB a2 16822324602022093402)) = true
  · have h' := h
    rw [Bool.and_eq_true, Bool.and_eq_true] at h'
    obtain ⟨⟨i0, i1⟩, i2⟩ := h'
    obtain ⟨r0, r1, r2, s0, s1, s2, u0, u1, t0, t, d0, d1, d2, h1, h2, h3, h4, h5, h6, q0, q1, h7, h8, h9, h10, h11, h12, h13, h14⟩ := plain a0 a1 a2 (wf_lt w0) (wf_lt w1) (wf_lt w2) i0 i1 i2
    exact law_yes a0 a1 a2 r0 r1 r2 s0 s1 s2 u0 u1 t0 t d0 d1 d2 w i0 i1 i2 h1 h2 h3 h4 h5 h6 q0 q1 h7 h8 h9 h10 h11 h12 h13 h14
  · exact law_no a0 a1 a2 w (by simpa using h)
-- theorem walk (a0 : Nat) (a1 : Nat) (a2 : Nat) (w0 : (Lit.float .f64 a0).wf = true) (w1 : (Lit.float .f64 a1).wf = true) (w2 : (Lit.float .f64 a2).wf = true) (w : World) :
--    Calls Try.prog 5 #[.float .f64 a0, .float .f64 a1, .float .f64 a2] w fun e w' => e = .returned (.bool true) ∧ Below w.heap.size w w'
theorem own : ownKnob Try.prog.godebug = none := by kernel_rfl
set_option maxRecDepth 100000 in
theorem lifted (os : Os) (started : os.Started) (H : Type) (enc : TypeId × Value → H) :
    ReturnsInHanded {} Try.checked os 5 .any (Rows.fnXyzToLinP3IsInverseOfLinP3ToXyzSpec.pre6 enc Try.prog Try.f5 Rows.fnXyzToLinP3IsInverseOfLinP3ToXyzRow.domain false) (Rows.fnXyzToLinP3IsInverseOfLinP3ToXyzSpec.post enc Try.prog Try.f5 false true false false) := by
  refine returnsInHanded_of_change (C := Try.checked) own started (by kernel_rfl) Try.func5
    (ChangeSpec.witness6 (enc := enc) (C := Try.checked) false ⟨#[], #[.float .f64 0, .float .f64 0, .float .f64 0], []⟩ 8 (by kernel_rfl) (by kernel_rfl) (by kernel_rfl) (by kernel_rfl)) ?_
  intro W base args ds gs before hval0 hW hcnd _
  have hval : ∀ (j : Nat) t v, Try.f5.params[j]? = some t → args[j]? = some v → Value.okWide Try.prog W .any base t v := hval0
  have hW' := hW
  obtain ⟨p, q, hA0, hV, rfl, hfz, hnd⟩ := hW
  have hA : DataW.TrodAll enc Try.prog W 0 (fun _ => true) true Try.f5.params.toList args.toList ds p := hA0
  rw [Try.params5] at hA hval
  obtain ⟨v0, vs0, d0, ds0, p0, q0, hargs, rfl, rfl, h0, r0⟩ := trodAll_cons hA
  obtain ⟨v1, vs1, d1, ds1, p1, q1, rfl, rfl, rfl, h1, r1⟩ := trodAll_cons r0
  obtain ⟨v2, vs2, d2, ds2, p2, q2, rfl, rfl, rfl, h2, r2⟩ := trodAll_cons r1
  obtain ⟨rfl, rfl, rfl⟩ := trodAll_nil r2
  obtain rfl : args = #[v0, v1, v2] := by cases args; simp_all
  obtain ⟨rfl, rfl⟩ := trodVars_none hV
  obtain ⟨a0, rfl, rfl, rfl, w0⟩ := open_float Try.underlying22 (hval 0 22 v0 rfl rfl) h0
  obtain ⟨a1, rfl, rfl, rfl, w1⟩ := open_float Try.underlying22 (hval 1 22 v1 rfl rfl) h1
  obtain ⟨a2, rfl, rfl, rfl, w2⟩ := open_float Try.underlying22 (hval 2 22 v2 rfl rfl) h2
  clear hA0 hval0
  simp only [List.append_nil] at hW'
  refine (walk a0 a1 a2 w0 w1 w2 W).mono fun e W' ⟨he, bel⟩ => ?_
  subst he
  exact ⟨_, rfl, _, _, _, [], [], [], hW', trodAll_mk1 (shut_bool Try.underlying4 _), (trodAll_cons_mk (shut_float Try.underlying22 w0) (trodAll_cons_mk (shut_float Try.underlying22 w1) (trodAll_cons_mk (shut_float Try.underlying22 w2) trodAll_mk0))), rfl, bel.frame _, fun h => by cases h⟩

theorem over : Rows.fnXyzToLinP3IsInverseOfLinP3ToXyzRow.holds Try.pinned (OpenSpec.ofChange Rows.fnXyzToLinP3IsInverseOfLinP3ToXyzSpec) :=
  OpenClaim.holds_of_wide 5 Try.f5 rfl rfl rfl rfl rfl rfl rfl ⟨rfl, rfl, rfl, rfl, rfl⟩ rfl rfl rfl rfl rfl (by kernel_rfl) Try.func5 (by kernel_rfl)
    (of_decide_eq_true (by kernel_rfl)) (by unfold Func.isWrapper; first | (rw [if_pos (by decide +kernel)]; kernel_rfl) | (rw [if_neg (by decide +kernel)]; exact ⟨rfl, rfl⟩))
    (fun os started H enc _ => lifted os started H enc)

theorem proved : Rows.FnXyzToLinP3IsInverseOfLinP3ToXyzSaid :=
  over
#print axioms proved
end Go.Proofs.Ytgflhgjigfpgiaa.fnXyzToLinP3IsInverseOfLinP3ToXyz

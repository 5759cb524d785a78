/- Proved: for all float64 r, g, b the law FnXyzToLinSrgbInvertsLinSrgbToXyz returns true, and its arguments read afterwards as before. No condition. -/
import Derived.Test.YtgflhgjigfpgiaaMat
import Derived.ShutString
namespace Go.Proofs.Ytgflhgjigfpgiaa.fnXyzToLinSrgbInvertsLinSrgbToXyz
open Go.ChangeShapes Go.WideShapes Go.ChangeAt Go.RowKit Go.Sort
open Go.ChangeMaps (open_string shut_string)
open Flt
set_option linter.unusedVariables false
theorem b2 (x : Bool) : x = true ∨ x = false := by cases x <;> simp
theorem ret_bool {a b : Bool} (h : a = b) : Ending.returned (.bool a) = .returned (.bool b) := by rw [h]
theorem ret_fl {k : FloatKind} {a b : Nat} (h : a = b) : Ending.returned (.float k a) = .returned (.float k b) := by rw [h]
theorem neg_fl (x : Nat) (w : World) : (Op.unary .neg (.float .f64 x)).run Try.prog w = .ok (.float .f64 (negB x)) w := rfl
theorem c1000 : (10 : Rat) ^ 301 ≤ two 1000 ∧ two 1000 < two 1022 := by unfold two; decide +kernel
/-- the difference of two words that lie close, held against a tolerance -/
theorem close_ok (x2 x t : Nat) (f2 : fin x2) (fx : fin x) (ft : fin t) (E : Rat) (hE : E ≤ two 1000) (n : Near (val x2) (val x) E) (ht : 2 * E + 2 * eta ≤ val t) :
    ∃ d, floatBits .sub .f64 x2 x = some d ∧ leB (absB d) t = true := by
  have T := t1000
  have e0 := eta_pos
  unfold Near at n
  obtain ⟨d, fd, gd, nd⟩ := sub_near x2 x f2 fx E (by grind) (by grind) (by grind)
  refine ⟨d, fd, ?_⟩
  obtain ⟨ga, g0, g1, g2⟩ := absB_val (bits_lt fd) gd
  rw [leB_iff ga ft]
  unfold Near at nd
  rw [uu_val] at nd
  rcases g2 with g2 | g2 <;> grind
def maxB (a b : Nat) : Nat := if gtB b a then b else a
theorem maxB_val {a b : Nat} (ha : fin a) (hb : fin b) : fin (maxB a b) ∧ val a ≤ val (maxB a b) ∧ val b ≤ val (maxB a b) ∧ (val (maxB a b) = val a ∨ val (maxB a b) = val b) := by
  have := gtB_iff hb ha
  unfold maxB
  by_cases h : gtB b a = true
  · rw [if_pos h]
    have := this.1 h
    exact ⟨hb, by grind, Rat.le_refl, Or.inr rfl⟩
  · rw [if_neg h]
    have : ¬ val a < val b := fun c => h (this.2 c)
    exact ⟨ha, Rat.le_refl, by grind, Or.inl rfl⟩
theorem abs_of_le {a b c : Rat} (h : Abs a b) (h2 : b ≤ c) : Abs a c := by unfold Abs at *; grind
theorem k4601100592117526705 : fin 4601100592117526705 ∧ val 4601100592117526705 = 7428972199620785 / 18014398509481984 := const_val (by decide +kernel) (by decide +kernel)
theorem k4600113286708316951 : fin 4600113286708316951 ∧ val 4600113286708316951 = 6441666790411031 / 18014398509481984 := const_val (by decide +kernel) (by decide +kernel)
theorem k4595670525981687698 : fin 4595670525981687698 ∧ val 4595670525981687698 = 3251252845576137 / 18014398509481984 := const_val (by decide +kernel) (by decide +kernel)
theorem k4596829147871394358 : fin 4596829147871394358 ∧ val 4596829147871394358 = 3830563790429467 / 18014398509481984 := const_val (by decide +kernel) (by decide +kernel)
theorem k4604616886335687447 : fin 4604616886335687447 ∧ val 4604616886335687447 = 6441666790411031 / 9007199254740992 := const_val (by decide +kernel) (by decide +kernel)
theorem k4589866425216086747 : fin 4589866425216086747 ∧ val 4589866425216086747 = 5202004552921819 / 72057594037927936 := const_val (by decide +kernel) (by decide +kernel)
theorem k4581228950558139524 : fin 4581228950558139524 ∧ val 4581228950558139524 = 1392932287428897 / 72057594037927936 := const_val (by decide +kernel) (by decide +kernel)
theorem k4593253309717046303 : fin 4593253309717046303 ∧ val 4593253309717046303 = 8588889053881375 / 72057594037927936 := const_val (by decide +kernel) (by decide +kernel)
theorem k4606736852038626910 : fin 4606736852038626910 ∧ val 4606736852038626910 = 4280816246675247 / 4503599627370496 := const_val (by decide +kernel) (by decide +kernel)
theorem k4614480434311357498 : fin 4614480434311357498 ∧ val 4614480434311357498 = 3649007755670045 / 1125899906842624 := const_val (by decide +kernel) (by decide +kernel)
theorem k13832974614333053062 : fin 13832974614333053062 ∧ val 13832974614333053062 = -3461879152815171 / 2251799813685248 := const_val (by decide +kernel) (by decide +kernel)
theorem k13826025829709715685 : fin 13826025829709715685 ∧ val 13826025829709715685 = -8982172937033957 / 18014398509481984 := const_val (by decide +kernel) (by decide +kernel)
theorem k13830277426958423814 : fin 13830277426958423814 ∧ val 13830277426958423814 = -4365085279185795 / 4503599627370496 := const_val (by decide +kernel) (by decide +kernel)
theorem k4611127425713396243 : fin 4611127425713396243 ∧ val 4611127425713396243 = 8448606540749331 / 4503599627370496 := const_val (by decide +kernel) (by decide +kernel)
theorem k4586149535949532533 : fin 4586149535949532533 ∧ val 4586149535949532533 = 5988714913738101 / 144115188075855872 := const_val (by decide +kernel) (by decide +kernel)
theorem k4588177960434001517 : fin 4588177960434001517 ∧ val 4588177960434001517 = 8017139398207085 / 144115188075855872 := const_val (by decide +kernel) (by decide +kernel)
theorem k13819889101593667727 : fin 13819889101593667727 ∧ val 13819889101593667727 = -7349044448356495 / 36028797018963968 := const_val (by decide +kernel) (by decide +kernel)
theorem k4607438995690332369 : fin 4607438995690332369 ∧ val 4607438995690332369 = 4760176517685457 / 4503599627370496 := const_val (by decide +kernel) (by decide +kernel)
set_option maxHeartbeats 4000000 in
theorem inv_m (x y z : Nat) (fx : fin x) (fy : fin y) (fz : fin z) (B : Rat) (hx : Abs (val x) B) (hy : Abs (val y) B) (hz : Abs (val z) B) (hB : B ≤ 10 ^ 300) :
    ∃ r0 r1 r2 s0 s1 s2 : Nat, Row 4601100592117526705 4600113286708316951 4595670525981687698 x y z r0 ∧ Row 4596829147871394358 4604616886335687447 4589866425216086747 x y z r1 ∧ Row 4581228950558139524 4593253309717046303 4606736852038626910 x y z r2 ∧ Row 4614480434311357498 13832974614333053062 13826025829709715685 r0 r1 r2 s0 ∧ Row 13830277426958423814 4611127425713396243 4586149535949532533 r0 r1 r2 s1 ∧ Row 4588177960434001517 13819889101593667727 4607438995690332369 r0 r1 r2 s2 ∧ fin s0 ∧ fin s1 ∧ fin s2 ∧ Near (val s0) (val x) (B / 10 ^ 12 + 1000 * eta) ∧ Near (val s1) (val y) (B / 10 ^ 12 + 1000 * eta) ∧ Near (val s2) (val z) (B / 10 ^ 12 + 1000 * eta) := by
  have T := c1000.1
  have e0 := eta_pos
  have e1 : eta ≤ 1 / 10 ^ 10 := by have := eta_small; grind
  have B0 : 0 ≤ B := by unfold Abs at hx; grind
  have BB : B ≤ two 1000 := by grind
  obtain ⟨p0, q0⟩ := k4601100592117526705
  obtain ⟨p1, q1⟩ := k4600113286708316951
  obtain ⟨p2, q2⟩ := k4595670525981687698
  obtain ⟨p3, q3⟩ := k4596829147871394358
  obtain ⟨p4, q4⟩ := k4604616886335687447
  obtain ⟨p5, q5⟩ := k4589866425216086747
  obtain ⟨p6, q6⟩ := k4581228950558139524
  obtain ⟨p7, q7⟩ := k4593253309717046303
  obtain ⟨p8, q8⟩ := k4606736852038626910
  obtain ⟨c0, v0⟩ := k4614480434311357498
  obtain ⟨c1, v1⟩ := k13832974614333053062
  obtain ⟨c2, v2⟩ := k13826025829709715685
  obtain ⟨c3, v3⟩ := k13830277426958423814
  obtain ⟨c4, v4⟩ := k4611127425713396243
  obtain ⟨c5, v5⟩ := k4586149535949532533
  obtain ⟨c6, v6⟩ := k4588177960434001517
  obtain ⟨c7, v7⟩ := k13819889101593667727
  obtain ⟨c8, v8⟩ := k4607438995690332369
  obtain ⟨r0, R0, g0, n0⟩ := row_near _ _ _ x y z p0 p1 p2 fx fy fz (by rw [q0]; unfold Abs; grind) (by rw [q1]; unfold Abs; grind) (by rw [q2]; unfold Abs; grind) B hx hy hz BB
  unfold Near at n0
  simp only [q0, q1, q2, uu_val] at n0
  obtain ⟨r1, R1, g1, n1⟩ := row_near _ _ _ x y z p3 p4 p5 fx fy fz (by rw [q3]; unfold Abs; grind) (by rw [q4]; unfold Abs; grind) (by rw [q5]; unfold Abs; grind) B hx hy hz BB
  unfold Near at n1
  simp only [q3, q4, q5, uu_val] at n1
  obtain ⟨r2, R2, g2, n2⟩ := row_near _ _ _ x y z p6 p7 p8 fx fy fz (by rw [q6]; unfold Abs; grind) (by rw [q7]; unfold Abs; grind) (by rw [q8]; unfold Abs; grind) B hx hy hz BB
  unfold Near at n2
  simp only [q6, q7, q8, uu_val] at n2
  have X := hx; have Y := hy; have Z := hz
  unfold Abs at X Y Z
  have b0 : Abs (val r0) (6 * B + 20 * eta) := by unfold Abs; constructor <;> grind
  have b1 : Abs (val r1) (6 * B + 20 * eta) := by unfold Abs; constructor <;> grind
  have b2 : Abs (val r2) (6 * B + 20 * eta) := by unfold Abs; constructor <;> grind
  have B2 : 6 * B + 20 * eta ≤ two 1000 := by grind
  obtain ⟨s0, S0, h0, m0⟩ := row_near _ _ _ r0 r1 r2 c0 c1 c2 g0 g1 g2 (by rw [v0]; unfold Abs; grind) (by rw [v1]; unfold Abs; grind) (by rw [v2]; unfold Abs; grind) _ b0 b1 b2 B2
  unfold Near at m0
  simp only [v0, v1, v2, uu_val] at m0
  obtain ⟨s1, S1, h1, m1⟩ := row_near _ _ _ r0 r1 r2 c3 c4 c5 g0 g1 g2 (by rw [v3]; unfold Abs; grind) (by rw [v4]; unfold Abs; grind) (by rw [v5]; unfold Abs; grind) _ b0 b1 b2 B2
  unfold Near at m1
  simp only [v3, v4, v5, uu_val] at m1
  obtain ⟨s2, S2, h2, m2⟩ := row_near _ _ _ r0 r1 r2 c6 c7 c8 g0 g1 g2 (by rw [v6]; unfold Abs; grind) (by rw [v7]; unfold Abs; grind) (by rw [v8]; unfold Abs; grind) _ b0 b1 b2 B2
  unfold Near at m2
  simp only [v6, v7, v8, uu_val] at m2
  clear b0 b1 b2
  refine ⟨r0, r1, r2, s0, s1, s2, R0, R1, R2, S0, S1, S2, h0, h1, h2, ?_, ?_, ?_⟩
  · clear m1 m2; unfold Near; constructor <;> grind
  · clear m0 m2; unfold Near; constructor <;> grind
  · clear m0 m1; unfold Near; constructor <;> grind
theorem k13920209183539462144 : fin 13920209183539462144 ∧ val 13920209183539462144 = -1000000 := const_val (by decide +kernel) (by decide +kernel)
theorem k4696837146684686336 : fin 4696837146684686336 ∧ val 4696837146684686336 = 1000000 := const_val (by decide +kernel) (by decide +kernel)
theorem k4607182418800017408 : fin 4607182418800017408 ∧ val 4607182418800017408 = 1 := const_val (by decide +kernel) (by decide +kernel)
theorem k4472406533629990549 : fin 4472406533629990549 ∧ val 4472406533629990549 = 4835703278458517 / 4835703278458516698824704 := const_val (by decide +kernel) (by decide +kernel)
theorem abs_c (x : Nat) (w : World) : Calls Try.prog 38 #[.float .f64 x] w fun e w' => e = .returned (.float .f64 (absB x)) ∧ w = w' := by
  have hn := neg_fl
  go_enter Try.func38, Try.ntmps38
  go_wp2
  · go_ret
    exact ⟨ret_fl (by unfold absB ltB; rw [if_pos ‹_›]), rfl⟩
  · go_ret
    exact ⟨ret_fl (by unfold absB ltB; rw [if_neg (by simp [*])]), rfl⟩
theorem close_c (x y t d : Nat) (w : World) (h : floatBits .sub .f64 x y = some d) : Calls Try.prog 16 #[.float .f64 x, .float .f64 y, .float .f64 t] w fun e w' => e = .returned (.bool (leB (absB d) t)) ∧ w = w' := by
  have hn := neg_fl
  have k := fun w => run_float_arith (P := Try.prog) w .sub 22 .f64 _ _ _ h
  clear h
  go_enter Try.func16, Try.ntmps16
  go_wp2
  · go_ret
    exact ⟨ret_bool (by unfold absB ltB; rw [if_pos ‹_›]; rfl), rfl⟩
  · go_ret
    exact ⟨ret_bool (by unfold absB ltB; rw [if_neg (by simp [*])]; rfl), rfl⟩
theorem in_c (x lo hi : Nat) (w : World) : Calls Try.prog 12 #[.float .f64 x, .float .f64 lo, .float .f64 hi] w fun e w' => e = .returned (.bool (geB x lo && leB x hi)) ∧ w = w' := by
  go_enter Try.func12, Try.ntmps12
  go_wp2
  all_goals
    go_ret
    exact ⟨ret_bool (by unfold geB leB; simp [*]), rfl⟩
def max3 (a b c : Nat) : Nat := maxB (maxB (absB a) (absB b)) (absB c)
theorem max_c (a b c : Nat) (w : World) : Calls Try.prog 15 #[.float .f64 a, .float .f64 b, .float .f64 c] w fun e w' => e = .returned (.float .f64 (max3 a b c)) ∧ w = w' := by
  go_enter Try.func15, Try.ntmps15
  go_wp2_with (go_at_call 38; refine (abs_c _ _).mono ?_; rintro e w' ⟨rfl, rfl⟩)
  all_goals
    go_ret
    refine ⟨ret_fl ?_, rfl⟩
    unfold max3 maxB gtB
    simp [*]
set_option maxRecDepth 100000 in
set_option maxHeartbeats 1000000 in
theorem law_no (x y z : Nat) (w : World) (h : ((geB x 13920209183539462144 && leB x 4696837146684686336) && (geB y 13920209183539462144 && leB y 4696837146684686336) && (geB z 13920209183539462144 && leB z 4696837146684686336)) = false) :
    Calls Try.prog 4 #[.float .f64 x, .float .f64 y, .float .f64 z] w fun e w' => e = .returned (.bool true) ∧ Below w.heap.size w w' := by
  rcases b2 (geB x 13920209183539462144 && leB x 4696837146684686336) with h1 | h1
  · rcases b2 (geB y 13920209183539462144 && leB y 4696837146684686336) with h2 | h2
    · rcases b2 (geB z 13920209183539462144 && leB z 4696837146684686336) with h3 | h3
      · rw [h1, h2, h3] at h; cases h
      · clear h
        go_enter Try.func4, Try.ntmps4
        go_wp2_with (go_at_call 12; refine (in_c _ _ _ _).mono ?_; rintro e w' ⟨rfl, rfl⟩)
        go_ret
        exact ⟨rfl, Below.refl _ _⟩
    · clear h
      go_enter Try.func4, Try.ntmps4
      go_wp2_with (go_at_call 12; refine (in_c _ _ _ _).mono ?_; rintro e w' ⟨rfl, rfl⟩)
      go_ret
      exact ⟨rfl, Below.refl _ _⟩
  · clear h
    go_enter Try.func4, Try.ntmps4
    go_wp2_with (go_at_call 12; refine (in_c _ _ _ _).mono ?_; rintro e w' ⟨rfl, rfl⟩)
    go_ret
    exact ⟨rfl, Below.refl _ _⟩
set_option maxRecDepth 100000 in
set_option maxHeartbeats 1000000 in
theorem law_yes (x y z r0 r1 r2 s0 s1 s2 t0 t d0 d1 d2 : Nat) (w : World) (i0 : (geB x 13920209183539462144 && leB x 4696837146684686336) = true) (i1 : (geB y 13920209183539462144 && leB y 4696837146684686336) = true) (i2 : (geB z 13920209183539462144 && leB z 4696837146684686336) = true)
    (h0 : Row 4601100592117526705 4600113286708316951 4595670525981687698 x y z r0) (h1 : Row 4596829147871394358 4604616886335687447 4589866425216086747 x y z r1) (h2 : Row 4581228950558139524 4593253309717046303 4606736852038626910 x y z r2) (g0 : Row 4614480434311357498 13832974614333053062 13826025829709715685 r0 r1 r2 s0) (g1 : Row 13830277426958423814 4611127425713396243 4586149535949532533 r0 r1 r2 s1) (g2 : Row 4588177960434001517 13819889101593667727 4607438995690332369 r0 r1 r2 s2)
    (ht0 : floatBits .add .f64 4607182418800017408 (max3 x y z) = some t0) (ht : floatBits .mul .f64 4472406533629990549 t0 = some t)
    (hd0 : floatBits .sub .f64 s0 x = some d0) (hd1 : floatBits .sub .f64 s1 y = some d1) (hd2 : floatBits .sub .f64 s2 z = some d2)
    (l0 : leB (absB d0) t = true) (l1 : leB (absB d1) t = true) (l2 : leB (absB d2) t = true) :
    Calls Try.prog 4 #[.float .f64 x, .float .f64 y, .float .f64 z] w fun e w' => e = .returned (.bool true) ∧ Below w.heap.size w w' := by
  have k3 := fun w => run_float_arith (P := Try.prog) w .add 22 .f64 _ _ _ ht0
  have k4 := fun w => run_float_arith (P := Try.prog) w .mul 22 .f64 _ _ _ ht
  have H0 := Lib.hid h0; have H1 := Lib.hid h1; have H2 := Lib.hid h2
  have G0 := Lib.hid g0; have G1 := Lib.hid g1; have G2 := Lib.hid g2
  have D0 := Lib.hid hd0; have D1 := Lib.hid hd1; have D2 := Lib.hid hd2
  clear h0 h1 h2 g0 g1 g2 ht0 ht hd0 hd1 hd2
  go_enter Try.func4, Try.ntmps4
  go_wp2_with (first | (go_at_call 12; refine (in_c _ _ _ _).mono ?_; rintro e w' ⟨rfl, rfl⟩) | (go_at_call 13; (with_reducible refine (ZZlinSrgbToXyz_n011_225_c _ _ _ _ _ _ _ H0.out H1.out H2.out).mono ?_); rintro e w' ⟨rfl, hb⟩) | (go_at_call 14; (with_reducible refine (ZZxyzToLinSrgb_n011_225_c _ _ _ _ _ _ _ G0.out G1.out G2.out).mono ?_); rintro e w2 ⟨rfl, hb2⟩; replace hb := hb.trans (hb2.mono hb.size); clear hb2) | (go_at_call 15; refine (max_c _ _ _ _).mono ?_; rintro e w' ⟨rfl, rfl⟩) | (go_at_call 16; (with_reducible refine (close_c _ _ _ _ _ D0.out).mono ?_); rintro e w' ⟨rfl, rfl⟩) | (go_at_call 16; (with_reducible refine (close_c _ _ _ _ _ D1.out).mono ?_); rintro e w' ⟨rfl, rfl⟩) | (go_at_call 16; (with_reducible refine (close_c _ _ _ _ _ D2.out).mono ?_); rintro e w' ⟨rfl, rfl⟩))
  go_ret
  exact ⟨rfl, hb⟩
theorem max3_val (a b c : Nat) (wa : a < 2 ^ 64) (wb : b < 2 ^ 64) (wc : c < 2 ^ 64) (ha : fin a) (hb : fin b) (hc : fin c) : fin (max3 a b c) ∧ Abs (val a) (val (max3 a b c)) ∧ Abs (val b) (val (max3 a b c)) ∧ Abs (val c) (val (max3 a b c)) ∧ (∀ M, Abs (val a) M → Abs (val b) M → Abs (val c) M → val (max3 a b c) ≤ M) := by
  obtain ⟨fa, a0, a1, a2⟩ := absB_val wa ha
  obtain ⟨fb, b0, b1, b2⟩ := absB_val wb hb
  obtain ⟨fc, c0, c1, c2⟩ := absB_val wc hc
  obtain ⟨fm, m0, m1, m2⟩ := maxB_val fa fb
  obtain ⟨fn, n0, n1, n2⟩ := maxB_val fm fc
  unfold max3
  refine ⟨fn, abs_of_le a1 (by grind), abs_of_le b1 (by grind), abs_of_le c1 (by grind), ?_⟩
  intro M p q r
  unfold Abs at p q r
  rcases n2 with e | e <;> rcases m2 with f | f <;> rcases a2 with g | g <;> rcases b2 with h | h <;> rcases c2 with i | i <;> grind
theorem plain (x y z : Nat) (wx : x < 2 ^ 64) (wy : y < 2 ^ 64) (wz : z < 2 ^ 64) (i0 : (geB x 13920209183539462144 && leB x 4696837146684686336) = true) (i1 : (geB y 13920209183539462144 && leB y 4696837146684686336) = true) (i2 : (geB z 13920209183539462144 && leB z 4696837146684686336) = true) :
    ∃ r0 r1 r2 s0 s1 s2 t0 t d0 d1 d2 : Nat, Row 4601100592117526705 4600113286708316951 4595670525981687698 x y z r0 ∧ Row 4596829147871394358 4604616886335687447 4589866425216086747 x y z r1 ∧ Row 4581228950558139524 4593253309717046303 4606736852038626910 x y z r2 ∧ Row 4614480434311357498 13832974614333053062 13826025829709715685 r0 r1 r2 s0 ∧ Row 13830277426958423814 4611127425713396243 4586149535949532533 r0 r1 r2 s1 ∧ Row 4588177960434001517 13819889101593667727 4607438995690332369 r0 r1 r2 s2 ∧
    floatBits .add .f64 4607182418800017408 (max3 x y z) = some t0 ∧ floatBits .mul .f64 4472406533629990549 t0 = some t ∧
    floatBits .sub .f64 s0 x = some d0 ∧ floatBits .sub .f64 s1 y = some d1 ∧ floatBits .sub .f64 s2 z = some d2 ∧
    leB (absB d0) t = true ∧ leB (absB d1) t = true ∧ leB (absB d2) t = true := by
  rw [Bool.and_eq_true] at i0 i1 i2
  obtain ⟨fl, vl⟩ := k13920209183539462144
  obtain ⟨fh, vh⟩ := k4696837146684686336
  have fx := fin_of_between fl fh i0.1 i0.2
  have fy := fin_of_between fl fh i1.1 i1.2
  have fz := fin_of_between fl fh i2.1 i2.2
  have bx1 := (geB_iff fx fl).1 i0.1
  have bx2 := (leB_iff fx fh).1 i0.2
  have by1 := (geB_iff fy fl).1 i1.1
  have by2 := (leB_iff fy fh).1 i1.2
  have bz1 := (geB_iff fz fl).1 i2.1
  have bz2 := (leB_iff fz fh).1 i2.2
  rw [vl] at bx1 by1 bz1
  rw [vh] at bx2 by2 bz2
  obtain ⟨fm, mx, my, mz, mU⟩ := max3_val x y z wx wy wz fx fy fz
  have mB := mU 1000000 (by unfold Abs; constructor <;> grind) (by unfold Abs; constructor <;> grind) (by unfold Abs; constructor <;> grind)
  have m0 : 0 ≤ val (max3 x y z) := by unfold Abs at mx; grind
  clear mU
  have e0 := eta_pos
  have e1 : eta ≤ 1 / 10 ^ 30 := by have := eta_small; grind
  have T := c1000.1
  have T2 := c1000.2
  obtain ⟨r0, r1, r2, s0, s1, s2, R0, R1, R2, S0, S1, S2, f0, f1, f2, n0, n1, n2⟩ := inv_m x y z fx fy fz _ mx my mz (by grind)
  obtain ⟨k1, v1⟩ := k4607182418800017408
  obtain ⟨k2, v2⟩ := k4472406533629990549
  obtain ⟨t0, ft0, gt0, nt0⟩ := add_near _ (max3 x y z) k1 fm (2 + val (max3 x y z)) (by rw [v1]; grind) (by rw [v1]; grind) (by have := t1000; grind)
  unfold Near at nt0
  rw [v1, uu_val] at nt0
  obtain ⟨t, ft, gt, nt⟩ := mul_near _ t0 k2 gt0 (2 + val (max3 x y z)) (by rw [v2]; grind) (by rw [v2]; grind) (by have := t1000; grind)
  unfold Near at nt
  rw [v2, uu_val] at nt
  obtain ⟨d0, fd0, l0⟩ := close_ok s0 x t f0 fx gt _ (by grind) n0 (by grind)
  obtain ⟨d1, fd1, l1⟩ := close_ok s1 y t f1 fy gt _ (by grind) n1 (by grind)
  obtain ⟨d2, fd2, l2⟩ := close_ok s2 z t f2 fz gt _ (by grind) n2 (by grind)
  exact ⟨r0, r1, r2, s0, s1, s2, t0, t, d0, d1, d2, R0, R1, R2, S0, S1, S2, ft0, ft, fd0, fd1, fd2, l0, l1, l2⟩
theorem walk (a0 : Nat) (a1 : Nat) (a2 : Nat) (w0 : (Lit.float .f64 a0).wf = true) (w1 : (Lit.float .f64 a1).wf = true) (w2 : (Lit.float .f64 a2).wf = true) (w : World) :
    Calls Try.prog 4 #[.float .f64 a0, .float .f64 a1, .float .f64 a2] w fun e w' => e = .returned (.bool true) ∧ Below w.heap.size w w' := by
  by_cases h : ((geB a0 13920209183539462144 && leB a0 4696837146684686336) && (geB a1 13920209183539462144 && leB a1 4696837146684686336) && (geB a2 13920209183539462144 && leB a2 4696837146684686336)) = true
  · have h' := h
    rw [Bool.and_eq_true, Bool.and_eq_true] at h'
    obtain ⟨⟨i0, i1⟩, i2⟩ := h'
    obtain ⟨r0, r1, r2, s0, s1, s2, t0, t, d0, d1, d2, h1, h2, h3, h4, h5, h6, h7, h8, h9, h10, h11, h12, h13, h14⟩ := plain a0 a1 a2 (wf_lt w0) (wf_lt w1) (wf_lt w2) i0 i1 i2
    exact law_yes a0 a1 a2 r0 r1 r2 s0 s1 s2 t0 t d0 d1 d2 w i0 i1 i2 h1 h2 h3 h4 h5 h6 h7 h8 h9 h10 h11 h12 h13 h14
  · exact law_no a0 a1 a2 w (by simpa using h)
-- theorem walk (a0 : Nat) (a1 : Nat) (a2 : Nat) (w0 : (Lit.float .f64 a0).wf = true) (w1 : (Lit.float .f64 a1).wf = true) (w2 : (Lit.float .f64 a2).wf = true) (w : World) :
--    Calls Try.prog 4 #[.float .f64 a0, .float .f64 a1, .float .f64 a2] w fun e w' => e = .returned (.bool true) ∧ Below w.heap.size w w'
theorem own : ownKnob Try.prog.godebug = none := by kernel_rfl
set_option maxRecDepth 100000 in
theorem lifted (os : Os) (started : os.Started) (H : Type) (enc : TypeId × Value → H) :
    ReturnsInHanded {} Try.checked os 4 .any (Rows.fnXyzToLinSrgbInvertsLinSrgbToXyzSpec.pre6 enc Try.prog Try.f4 Rows.fnXyzToLinSrgbInvertsLinSrgbToXyzRow.domain false) (Rows.fnXyzToLinSrgbInvertsLinSrgbToXyzSpec.post enc Try.prog Try.f4 false true false false) := by
  refine returnsInHanded_of_change (C := Try.checked) own started (by kernel_rfl) Try.func4
    (ChangeSpec.witness6 (enc := enc) (C := Try.checked) false ⟨#[], #[.float .f64 0, .float .f64 0, .float .f64 0], []⟩ 8 (by kernel_rfl) (by kernel_rfl) (by kernel_rfl) (by kernel_rfl)) ?_
  intro W base args ds gs before hval0 hW hcnd _
  have hval : ∀ (j : Nat) t v, Try.f4.params[j]? = some t → args[j]? = some v → Value.okWide Try.prog W .any base t v := hval0
  have hW' := hW
  obtain ⟨p, q, hA0, hV, rfl, hfz, hnd⟩ := hW
  have hA : DataW.TrodAll enc Try.prog W 0 (fun _ => true) true Try.f4.params.toList args.toList ds p := hA0
  rw [Try.params4] at hA hval
  obtain ⟨v0, vs0, d0, ds0, p0, q0, hargs, rfl, rfl, h0, r0⟩ := trodAll_cons hA
  obtain ⟨v1, vs1, d1, ds1, p1, q1, rfl, rfl, rfl, h1, r1⟩ := trodAll_cons r0
  obtain ⟨v2, vs2, d2, ds2, p2, q2, rfl, rfl, rfl, h2, r2⟩ := trodAll_cons r1
  obtain ⟨rfl, rfl, rfl⟩ := trodAll_nil r2
  obtain rfl : args = #[v0, v1, v2] := by cases args; simp_all
  obtain ⟨rfl, rfl⟩ := trodVars_none hV
  obtain ⟨a0, rfl, rfl, rfl, w0⟩ := open_float Try.underlying22 (hval 0 22 v0 rfl rfl) h0
  obtain ⟨a1, rfl, rfl, rfl, w1⟩ := open_float Try.underlying22 (hval 1 22 v1 rfl rfl) h1
  obtain ⟨a2, rfl, rfl, rfl, w2⟩ := open_float Try.underlying22 (hval 2 22 v2 rfl rfl) h2
  clear hA0 hval0
  simp only [List.append_nil] at hW'
  refine (walk a0 a1 a2 w0 w1 w2 W).mono fun e W' ⟨he, bel⟩ => ?_
  subst he
  exact ⟨_, rfl, _, _, _, [], [], [], hW', trodAll_mk1 (shut_bool Try.underlying4 _), (trodAll_cons_mk (shut_float Try.underlying22 w0) (trodAll_cons_mk (shut_float Try.underlying22 w1) (trodAll_cons_mk (shut_float Try.underlying22 w2) trodAll_mk0))), rfl, bel.frame _, fun h => by cases h⟩

theorem over : Rows.fnXyzToLinSrgbInvertsLinSrgbToXyzRow.holds Try.pinned (OpenSpec.ofChange Rows.fnXyzToLinSrgbInvertsLinSrgbToXyzSpec) :=
  OpenClaim.holds_of_wide 4 Try.f4 rfl rfl rfl rfl rfl rfl rfl ⟨rfl, rfl, rfl, rfl, rfl⟩ rfl rfl rfl rfl rfl (by kernel_rfl) Try.func4 (by kernel_rfl)
    (of_decide_eq_true (by kernel_rfl)) (by unfold Func.isWrapper; first | (rw [if_pos (by decide +kernel)]; kernel_rfl) | (rw [if_neg (by decide +kernel)]; exact ⟨rfl, rfl⟩))
    (fun os started H enc _ => lifted os started H enc)

theorem proved : Rows.FnXyzToLinSrgbInvertsLinSrgbToXyzSaid :=
  over
#print axioms proved
end Go.Proofs.Ytgflhgjigfpgiaa.fnXyzToLinSrgbInvertsLinSrgbToXyz

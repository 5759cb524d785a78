/- Proved: for all float64 x, y, z, t the law FnXyzToLinProphotoInvertsForwardAndMapsD50WhiteToGray returns true, and its arguments read afterwards as before. No condition. -/
import Derived.Test.YtgflhgjigfpgiaaMat
import Derived.ShutString
namespace Go.Proofs.Ytgflhgjigfpgiaa.fnXyzToLinProphotoInvertsForwardAndMapsD50WhiteToGray
open Go.ChangeShapes Go.WideShapes Go.ChangeAt Go.RowKit Go.Sort
open Go.ChangeMaps (open_string shut_string)
open Flt Ieee
set_option linter.unusedVariables false
theorem b2 (x : Bool) : x = true ∨ x = false := by cases x <;> simp
theorem ret_bool {a b : Bool} (h : a = b) : Ending.returned (.bool a) = .returned (.bool b) := by rw [h]
theorem ret_fl {k : FloatKind} {a b : Nat} (h : a = b) : Ending.returned (.float k a) = .returned (.float k b) := by rw [h]
theorem neg_fl (x : Nat) (w : World) : (Op.unary .neg (.float .f64 x)).run Try.prog w = .ok (.float .f64 (negB x)) w := rfl
theorem c1000 : (10 : Rat) ^ 301 ≤ two 1000 ∧ two 1000 < two 1022 := by unfold two; decide +kernel
/-- the difference of two words that lie close, held against a tolerance -/
theorem close_ok (x2 x t : Nat) (f2 : fin x2) (fx : fin x) (ft : fin t) (E : Rat) (hE : E ≤ two 1000) (n : Near (val x2) (val x) E) (ht : 2 * E + 2 * eta ≤ val t) :
    ∃ d, floatBits .sub .f64 x2 x = some d ∧ leB (absB d) t = true := by
  have T := t1000
  have e0 := eta_pos
  unfold Near at n
  obtain ⟨d, fd, gd, nd⟩ := sub_near x2 x f2 fx E (by grind) (by grind) (by grind)
  refine ⟨d, fd, ?_⟩
  obtain ⟨ga, g0, g1, g2⟩ := absB_val (bits_lt fd) gd
  rw [leB_iff ga ft]
  unfold Near at nd
  rw [uu_val] at nd
  rcases g2 with g2 | g2 <;> grind
def maxB (a b : Nat) : Nat := if gtB b a then b else a
theorem maxB_val {a b : Nat} (ha : fin a) (hb : fin b) : fin (maxB a b) ∧ val a ≤ val (maxB a b) ∧ val b ≤ val (maxB a b) ∧ (val (maxB a b) = val a ∨ val (maxB a b) = val b) := by
  have := gtB_iff hb ha
  unfold maxB
  by_cases h : gtB b a = true
  · rw [if_pos h]
    have := this.1 h
    exact ⟨hb, by grind, Rat.le_refl, Or.inr rfl⟩
  · rw [if_neg h]
    have : ¬ val a < val b := fun c => h (this.2 c)
    exact ⟨ha, Rat.le_refl, by grind, Or.inl rfl⟩
theorem abs_of_le {a b c : Rat} (h : Abs a b) (h2 : b ≤ c) : Abs a c := by unfold Abs at *; grind
def isNan (x : Nat) : Prop := ∃ s f, F.read x = .nan s f
theorem nan_word (v : Nat) : isNan ((v % 2) * 2 ^ 63 + 0x7ff0000000000000 + 1 + (v / 2) % (2 ^ 52 - 1)) := by
  have hm : (v / 2) % (2 ^ 52 - 1) < 2 ^ 52 - 1 := Nat.mod_lt _ (by decide)
  generalize (v / 2) % (2 ^ 52 - 1) = m at *
  have hs : v % 2 < 2 := Nat.mod_lt _ (by decide)
  generalize v % 2 = s at *
  have hr : (s * 2 ^ 63 + 0x7ff0000000000000 + 1 + m) % 2 ^ 63 = 0x7ff0000000000000 + 1 + m := by omega
  unfold isNan Format.read
  dsimp only
  rw [show F.signWeight = 2 ^ 63 from rfl, hr, show F.binade = 2 ^ 52 from rfl, show F.infRung = 0x7ff0000000000000 from by decide]
  rw [if_neg (by omega), if_neg (by omega), if_neg (by omega)]
  exact ⟨_, _, rfl⟩
theorem nan_run {P : Program} (w : World) (op : BinOp) (t : TypeId) (x y : Nat) (ho : op = .add ∨ op = .sub ∨ op = .mul ∨ op = .quo) (h : floatBits op .f64 x y = none) :
    ∃ r, (binOp op t (.float .f64 x) (.float .f64 y)).run P w = .ok (.float .f64 r) w.drew ∧ isNan r ∧ r < 2 ^ 64 := by
  refine ⟨_, ?_, nan_word (w.tape w.drawn (.nanBits .f64 x y)), ?_⟩
  · rcases ho with rfl | rfl | rfl | rfl <;> simp [binOp, Op.floatArith, floatBits] at h ⊢ <;> simp [h] <;> (rw [if_neg (by simp [Question.forced])]; rfl)
  · omega
theorem nan_order {x y : Nat} (h : isNan x) : F.order x y = none := by
  obtain ⟨s, f, e⟩ := h
  unfold Format.order
  rw [e]
  cases F.read y <;> rfl
theorem nan_order' {x y : Nat} (h : isNan y) : F.order x y = none := by
  obtain ⟨s, f, e⟩ := h
  unfold Format.order
  rw [e]
  cases F.read x <;> rfl
theorem nan_eqB {x y : Nat} (h : isNan x) : eqB x y = false := by
  have := nan_order (y := y) h
  unfold eqB
  show (F.order x y == some .eq) = false
  rw [this]; rfl
theorem k4608739758926428405 : fin 4608739758926428405 ∧ val 4608739758926428405 = 6060939753781493 / 4503599627370496 := const_val (by decide +kernel) (by decide +kernel)
theorem k13821647778546615692 : fin 13821647778546615692 ∧ val 13821647778546615692 = -1151030443483491 / 4503599627370496 := const_val (by decide +kernel) (by decide +kernel)
theorem k13810898049774936208 : fin 13810898049774936208 ∧ val 13810898049774936208 = -460324492772873 / 9007199254740992 := const_val (by decide +kernel) (by decide +kernel)
theorem k13826452779721249017 : fin 13826452779721249017 ∧ val 13826452779721249017 = -4905523321196793 / 9007199254740992 := const_val (by decide +kernel) (by decide +kernel)
theorem k4609471295584413373 : fin 4609471295584413373 ∧ val 4609471295584413373 = 6792476411766461 / 4503599627370496 := const_val (by decide +kernel) (by decide +kernel)
theorem k4581576329749283875 : fin 4581576329749283875 ∧ val 4581576329749283875 = 5919108340859939 / 288230376151711744 := const_val (by decide +kernel) (by decide +kernel)
theorem k0 : fin 0 ∧ val 0 = 0 := const_val (by decide +kernel) (by decide +kernel)
theorem k4608137035759571601 : fin 4608137035759571601 ∧ val 4608137035759571601 = 5458216586924689 / 4503599627370496 := const_val (by decide +kernel) (by decide +kernel)
theorem k4605360807233314590 : fin 4605360807233314590 ∧ val 4605360807233314590 = 3592793844019087 / 4503599627370496 := const_val (by decide +kernel) (by decide +kernel)
theorem k4594038603377978885 : fin 4594038603377978885 ∧ val 4594038603377978885 = 4870583087443461 / 36028797018963968 := const_val (by decide +kernel) (by decide +kernel)
theorem k4584678738446791632 : fin 4584678738446791632 ∧ val 4584678738446791632 = 282369838187325 / 9007199254740992 := const_val (by decide +kernel) (by decide +kernel)
theorem k4598861048020904497 : fin 4598861048020904497 ∧ val 4598861048020904497 = 5189428102998577 / 18014398509481984 := const_val (by decide +kernel) (by decide +kernel)
theorem k4604586933246227991 : fin 4604586933246227991 ∧ val 4604586933246227991 = 6411713700951575 / 9007199254740992 := const_val (by decide +kernel) (by decide +kernel)
theorem k4545948571150199221 : fin 4545948571150199221 ∧ val 4545948571150199221 = 6320146760739253 / 73786976294838206464 := const_val (by decide +kernel) (by decide +kernel)
theorem k4605607101106091995 : fin 4605607101106091995 ∧ val 4605607101106091995 = 7431881560815579 / 9007199254740992 := const_val (by decide +kernel) (by decide +kernel)
set_option maxHeartbeats 4000000 in
theorem inv_m (x y z : Nat) (fx : fin x) (fy : fin y) (fz : fin z) (B : Rat) (hx : Abs (val x) B) (hy : Abs (val y) B) (hz : Abs (val z) B) (hB : B ≤ 10 ^ 300 + 10 ^ 290) :
    ∃ r0 r1 r2 s0 s1 s2 : Nat, Row 4608739758926428405 13821647778546615692 13810898049774936208 x y z r0 ∧ Row 13826452779721249017 4609471295584413373 4581576329749283875 x y z r1 ∧ Row 0 0 4608137035759571601 x y z r2 ∧ Row 4605360807233314590 4594038603377978885 4584678738446791632 r0 r1 r2 s0 ∧ Row 4598861048020904497 4604586933246227991 4545948571150199221 r0 r1 r2 s1 ∧ Row 0 0 4605607101106091995 r0 r1 r2 s2 ∧ fin s0 ∧ fin s1 ∧ fin s2 ∧ Near (val s0) (val x) (B / 10 ^ 12 + 1000 * eta) ∧ Near (val s1) (val y) (B / 10 ^ 12 + 1000 * eta) ∧ Near (val s2) (val z) (B / 10 ^ 12 + 1000 * eta) := by
  have T := c1000.1
  have e0 := eta_pos
  have e1 : eta ≤ 1 / 10 ^ 10 := by have := eta_small; grind
  have B0 : 0 ≤ B := by unfold Abs at hx; grind
  have BB : B ≤ two 1000 := by grind
  obtain ⟨p0, q0⟩ := k4608739758926428405
  obtain ⟨p1, q1⟩ := k13821647778546615692
  obtain ⟨p2, q2⟩ := k13810898049774936208
  obtain ⟨p3, q3⟩ := k13826452779721249017
  obtain ⟨p4, q4⟩ := k4609471295584413373
  obtain ⟨p5, q5⟩ := k4581576329749283875
  obtain ⟨p6, q6⟩ := k0
  obtain ⟨p7, q7⟩ := k0
  obtain ⟨p8, q8⟩ := k4608137035759571601
  obtain ⟨c0, v0⟩ := k4605360807233314590
  obtain ⟨c1, v1⟩ := k4594038603377978885
  obtain ⟨c2, v2⟩ := k4584678738446791632
  obtain ⟨c3, v3⟩ := k4598861048020904497
  obtain ⟨c4, v4⟩ := k4604586933246227991
  obtain ⟨c5, v5⟩ := k4545948571150199221
  obtain ⟨c6, v6⟩ := k0
  obtain ⟨c7, v7⟩ := k0
  obtain ⟨c8, v8⟩ := k4605607101106091995
  obtain ⟨r0, R0, g0, n0⟩ := row_near _ _ _ x y z p0 p1 p2 fx fy fz (by rw [q0]; unfold Abs; grind) (by rw [q1]; unfold Abs; grind) (by rw [q2]; unfold Abs; grind) B hx hy hz BB
  unfold Near at n0
  simp only [q0, q1, q2, uu_val] at n0
  obtain ⟨r1, R1, g1, n1⟩ := row_near _ _ _ x y z p3 p4 p5 fx fy fz (by rw [q3]; unfold Abs; grind) (by rw [q4]; unfold Abs; grind) (by rw [q5]; unfold Abs; grind) B hx hy hz BB
  unfold Near at n1
  simp only [q3, q4, q5, uu_val] at n1
  obtain ⟨r2, R2, g2, n2⟩ := row_near _ _ _ x y z p6 p7 p8 fx fy fz (by rw [q6]; unfold Abs; grind) (by rw [q7]; unfold Abs; grind) (by rw [q8]; unfold Abs; grind) B hx hy hz BB
  unfold Near at n2
  simp only [q6, q7, q8, uu_val] at n2
  have X := hx; have Y := hy; have Z := hz
  unfold Abs at X Y Z
  have b0 : Abs (val r0) (6 * B + 20 * eta) := by unfold Abs; constructor <;> grind
  have b1 : Abs (val r1) (6 * B + 20 * eta) := by unfold Abs; constructor <;> grind
  have b2 : Abs (val r2) (6 * B + 20 * eta) := by unfold Abs; constructor <;> grind
  have B2 : 6 * B + 20 * eta ≤ two 1000 := by grind
  obtain ⟨s0, S0, h0, m0⟩ := row_near _ _ _ r0 r1 r2 c0 c1 c2 g0 g1 g2 (by rw [v0]; unfold Abs; grind) (by rw [v1]; unfold Abs; grind) (by rw [v2]; unfold Abs; grind) _ b0 b1 b2 B2
  unfold Near at m0
  simp only [v0, v1, v2, uu_val] at m0
  obtain ⟨s1, S1, h1, m1⟩ := row_near _ _ _ r0 r1 r2 c3 c4 c5 g0 g1 g2 (by rw [v3]; unfold Abs; grind) (by rw [v4]; unfold Abs; grind) (by rw [v5]; unfold Abs; grind) _ b0 b1 b2 B2
  unfold Near at m1
  simp only [v3, v4, v5, uu_val] at m1
  obtain ⟨s2, S2, h2, m2⟩ := row_near _ _ _ r0 r1 r2 c6 c7 c8 g0 g1 g2 (by rw [v6]; unfold Abs; grind) (by rw [v7]; unfold Abs; grind) (by rw [v8]; unfold Abs; grind) _ b0 b1 b2 B2
  unfold Near at m2
  simp only [v6, v7, v8, uu_val] at m2
  clear b0 b1 b2
  refine ⟨r0, r1, r2, s0, s1, s2, R0, R1, R2, S0, S1, S2, h0, h1, h2, ?_, ?_, ?_⟩
  · clear m1 m2; unfold Near; constructor <;> grind
  · clear m0 m2; unfold Near; constructor <;> grind
  · clear m0 m1; unfold Near; constructor <;> grind
theorem k9094988921128908188 : fin 9094988921128908188 ∧ val 9094988921128908188 ≤ 2 * 10 ^ 299 + 8 * 10 ^ 299 + 10 ^ 290 := ⟨fin_of (by decide +kernel), by decide +kernel⟩
theorem k300 : fin 118622047889322841 ∧ 10 ^ 15 * eta ≤ val 118622047889322841 ∧ val 118622047889322841 ≤ 1 := ⟨fin_of (by decide +kernel), by unfold eta; decide +kernel, by decide +kernel⟩
theorem k4472406533629990549 : fin 4472406533629990549 ∧ val 4472406533629990549 = 4835703278458517 / 4835703278458516698824704 := const_val (by decide +kernel) (by decide +kernel)
theorem k4606860822843362778 : fin 4606860822843362778 ∧ val 4606860822843362778 = 4342801649043181 / 4503599627370496 := const_val (by decide +kernel) (by decide +kernel)
theorem k4605607101106091996 : fin 4605607101106091996 ∧ val 4605607101106091996 = 1857970390203895 / 2251799813685248 := const_val (by decide +kernel) (by decide +kernel)
theorem abs_c (x : Nat) (w : World) : Calls Try.prog 31 #[.float .f64 x] w fun e w' => e = .returned (.float .f64 (absB x)) ∧ w = w' := by
  have hn := neg_fl
  go_enter Try.func31, Try.ntmps31
  go_wp2
  · go_ret
    exact ⟨ret_fl (by unfold absB ltB; rw [if_pos ‹_›]), rfl⟩
  · go_ret
    exact ⟨ret_fl (by unfold absB ltB; rw [if_neg (by simp [*])]), rfl⟩
theorem close_c (x y s q d p t : Nat) (w : World) (h : floatBits .sub .f64 x y = some d) (hp : floatBits .mul .f64 q s = some p) (ht : floatBits .add .f64 p 118622047889322841 = some t) : Calls Try.prog 32 #[.float .f64 x, .float .f64 y, .float .f64 s, .float .f64 q] w fun e w' => e = .returned (.bool (leB (absB d) t)) ∧ w = w' := by
  have hn := neg_fl
  have k := fun w => run_float_arith (P := Try.prog) w .sub 22 .f64 _ _ _ h
  have k2 := fun w => run_float_arith (P := Try.prog) w .mul 22 .f64 _ _ _ hp
  have k3 := fun w => run_float_arith (P := Try.prog) w .add 22 .f64 _ _ _ ht
  clear h hp ht
  go_enter Try.func32, Try.ntmps32
  go_wp2
  · go_ret
    exact ⟨ret_bool (by unfold absB ltB; rw [if_pos ‹_›]; rfl), rfl⟩
  · go_ret
    exact ⟨ret_bool (by unfold absB ltB; rw [if_neg (by simp [*])]; rfl), rfl⟩
theorem ord_c (x : Nat) (w : World) : Calls Try.prog 27 #[.float .f64 x] w fun e w' => e = .returned (.bool (eqB x x && leB (absB x) 9094988921128908188)) ∧ w = w' := by
  go_enter Try.func27, Try.ntmps27
  go_wp2_with (go_at_call 31; refine (abs_c _ _).mono ?_; rintro e w' ⟨rfl, rfl⟩)
  all_goals
    go_ret
    exact ⟨ret_bool (by unfold leB eqB; simp [*]), rfl⟩
def max3 (a b c : Nat) : Nat := maxB (maxB a b) c
theorem max_c (a b c : Nat) (w : World) : Calls Try.prog 30 #[.float .f64 a, .float .f64 b, .float .f64 c] w fun e w' => e = .returned (.float .f64 (max3 a b c)) ∧ w = w' := by
  go_enter Try.func30, Try.ntmps30
  go_wp2
  all_goals
    go_ret
    refine ⟨ret_fl ?_, rfl⟩
    unfold max3 maxB gtB
    simp [*]
set_option maxRecDepth 100000 in
set_option maxHeartbeats 1000000 in
theorem law_no (x y z u : Nat) (w : World) (h : ((eqB x x && leB (absB x) 9094988921128908188) && (eqB y y && leB (absB y) 9094988921128908188) && (eqB z z && leB (absB z) 9094988921128908188) && (eqB u u && leB (absB u) 9094988921128908188)) = false) :
    Calls Try.prog 7 #[.float .f64 x, .float .f64 y, .float .f64 z, .float .f64 u] w fun e w' => e = .returned (.bool true) ∧ Below w.heap.size w w' := by
  rcases b2 (eqB x x && leB (absB x) 9094988921128908188) with h1 | h1
  · rcases b2 (eqB y y && leB (absB y) 9094988921128908188) with h2 | h2
    · rcases b2 (eqB z z && leB (absB z) 9094988921128908188) with h3 | h3
      · rcases b2 (eqB u u && leB (absB u) 9094988921128908188) with h4 | h4
        · rw [h1, h2, h3, h4] at h; cases h
        · clear h
          go_enter Try.func7, Try.ntmps7
          go_wp2_with (go_at_call 27; refine (ord_c _ _).mono ?_; rintro e w' ⟨rfl, rfl⟩)
          go_ret
          exact ⟨rfl, Below.refl _ _⟩
      · clear h
        go_enter Try.func7, Try.ntmps7
        go_wp2_with (go_at_call 27; refine (ord_c _ _).mono ?_; rintro e w' ⟨rfl, rfl⟩)
        go_ret
        exact ⟨rfl, Below.refl _ _⟩
    · clear h
      go_enter Try.func7, Try.ntmps7
      go_wp2_with (go_at_call 27; refine (ord_c _ _).mono ?_; rintro e w' ⟨rfl, rfl⟩)
      go_ret
      exact ⟨rfl, Below.refl _ _⟩
  · clear h
    go_enter Try.func7, Try.ntmps7
    go_wp2_with (go_at_call 27; refine (ord_c _ _).mono ?_; rintro e w' ⟨rfl, rfl⟩)
    go_ret
    exact ⟨rfl, Below.refl _ _⟩
set_option maxRecDepth 100000 in
set_option maxHeartbeats 2000000 in
theorem law_yes (x y z u r0 r1 r2 s0 s1 s2 p t d0 d1 d2 x0 z0 v0 v1 v2 p' t' c0 c1 c2 : Nat) (w : World) (i0 : (eqB x x && leB (absB x) 9094988921128908188) = true) (i1 : (eqB y y && leB (absB y) 9094988921128908188) = true) (i2 : (eqB z z && leB (absB z) 9094988921128908188) = true) (i3 : (eqB u u && leB (absB u) 9094988921128908188) = true)
    (h0 : Row 4608739758926428405 13821647778546615692 13810898049774936208 x y z r0) (h1 : Row 13826452779721249017 4609471295584413373 4581576329749283875 x y z r1) (h2 : Row 0 0 4608137035759571601 x y z r2) (g0 : Row 4605360807233314590 4594038603377978885 4584678738446791632 r0 r1 r2 s0) (g1 : Row 4598861048020904497 4604586933246227991 4545948571150199221 r0 r1 r2 s1) (g2 : Row 0 0 4605607101106091995 r0 r1 r2 s2) (j0 : Row 4608739758926428405 13821647778546615692 13810898049774936208 x0 u z0 v0) (j1 : Row 13826452779721249017 4609471295584413373 4581576329749283875 x0 u z0 v1) (j2 : Row 0 0 4608137035759571601 x0 u z0 v2)
    (hp : floatBits .mul .f64 4472406533629990549 (max3 (absB x) (absB y) (absB z)) = some p) (ht : floatBits .add .f64 p 118622047889322841 = some t)
    (hd0 : floatBits .sub .f64 s0 x = some d0) (hd1 : floatBits .sub .f64 s1 y = some d1) (hd2 : floatBits .sub .f64 s2 z = some d2)
    (l0 : leB (absB d0) t = true) (l1 : leB (absB d1) t = true) (l2 : leB (absB d2) t = true)
    (hx0 : floatBits .mul .f64 u 4606860822843362778 = some x0) (hz0 : floatBits .mul .f64 u 4605607101106091996 = some z0)
    (hp' : floatBits .mul .f64 4472406533629990549 (absB u) = some p') (ht' : floatBits .add .f64 p' 118622047889322841 = some t')
    (hc0 : floatBits .sub .f64 v0 u = some c0) (hc1 : floatBits .sub .f64 v1 u = some c1) (hc2 : floatBits .sub .f64 v2 u = some c2)
    (m0 : leB (absB c0) t' = true) (m1 : leB (absB c1) t' = true) (m2 : leB (absB c2) t' = true) :
    Calls Try.prog 7 #[.float .f64 x, .float .f64 y, .float .f64 z, .float .f64 u] w fun e w' => e = .returned (.bool true) ∧ Below w.heap.size w w' := by
  have k1 := fun w => run_float_arith (P := Try.prog) w .mul 22 .f64 _ _ _ hx0
  have k2 := fun w => run_float_arith (P := Try.prog) w .mul 22 .f64 _ _ _ hz0
  have H0 := Lib.hid h0; have H1 := Lib.hid h1; have H2 := Lib.hid h2
  have G0 := Lib.hid g0; have G1 := Lib.hid g1; have G2 := Lib.hid g2
  have J0 := Lib.hid j0; have J1 := Lib.hid j1; have J2 := Lib.hid j2
  have D0 := Lib.hid hd0; have D1 := Lib.hid hd1; have D2 := Lib.hid hd2
  have C0 := Lib.hid hc0; have C1 := Lib.hid hc1; have C2 := Lib.hid hc2
  have P := Lib.hid hp; have T := Lib.hid ht; have P' := Lib.hid hp'; have T' := Lib.hid ht'
  clear h0 h1 h2 g0 g1 g2 j0 j1 j2 hp ht hp' ht' hd0 hd1 hd2 hc0 hc1 hc2 hx0 hz0
  go_enter Try.func7, Try.ntmps7
  go_wp2_with (first | (go_at_call 27; refine (ord_c _ _).mono ?_; rintro e w' ⟨rfl, rfl⟩) | (go_at_call 28; (with_reducible refine (ZZxyzToLinProphoto_n011_293_c _ _ _ _ _ _ _ H0.out H1.out H2.out).mono ?_); rintro e w' ⟨rfl, hb⟩) | (go_at_call 28; (with_reducible refine (ZZxyzToLinProphoto_n011_293_c _ _ _ _ _ _ _ J0.out J1.out J2.out).mono ?_); rintro e w2 ⟨rfl, hb2⟩; replace hb := hb.trans (hb2.mono hb.size); clear hb2) | (go_at_call 29; (with_reducible refine (ZZlinProphotoToXyz_n011_293_c _ _ _ _ _ _ _ G0.out G1.out G2.out).mono ?_); rintro e w2 ⟨rfl, hb2⟩; replace hb := hb.trans (hb2.mono hb.size); clear hb2) | (go_at_call 30; refine (max_c _ _ _ _).mono ?_; rintro e w' ⟨rfl, rfl⟩) | (go_at_call 31; refine (abs_c _ _).mono ?_; rintro e w' ⟨rfl, rfl⟩) | (go_at_call 32; (with_reducible refine (close_c _ _ _ _ _ _ _ _ D0.out P.out T.out).mono ?_); rintro e w' ⟨rfl, rfl⟩) | (go_at_call 32; (with_reducible refine (close_c _ _ _ _ _ _ _ _ D1.out P.out T.out).mono ?_); rintro e w' ⟨rfl, rfl⟩) | (go_at_call 32; (with_reducible refine (close_c _ _ _ _ _ _ _ _ D2.out P.out T.out).mono ?_); rintro e w' ⟨rfl, rfl⟩) | (go_at_call 32; (with_reducible refine (close_c _ _ _ _ _ _ _ _ C0.out P'.out T'.out).mono ?_); rintro e w' ⟨rfl, rfl⟩) | (go_at_call 32; (with_reducible refine (close_c _ _ _ _ _ _ _ _ C1.out P'.out T'.out).mono ?_); rintro e w' ⟨rfl, rfl⟩) | (go_at_call 32; (with_reducible refine (close_c _ _ _ _ _ _ _ _ C2.out P'.out T'.out).mono ?_); rintro e w' ⟨rfl, rfl⟩))
  go_ret
  exact ⟨rfl, hb⟩
theorem max3_val (a b c : Nat) (fa : fin a) (fb : fin b) (fc : fin c) : fin (max3 a b c) ∧ val a ≤ (val (max3 a b c)) ∧ val b ≤ (val (max3 a b c)) ∧ val c ≤ (val (max3 a b c)) ∧ (∀ M, val a ≤ M → val b ≤ M → val c ≤ M → val (max3 a b c) ≤ M) := by
  obtain ⟨fm, m0, m1, m2⟩ := maxB_val fa fb
  obtain ⟨fn, n0, n1, n2⟩ := maxB_val fm fc
  unfold max3
  refine ⟨fn, by grind, by grind, by grind, ?_⟩
  intro M p q r
  rcases n2 with e | e <;> rcases m2 with f | f <;> grind
theorem negB_read {x : Nat} (hw : x < 2 ^ 64) : F.read (negB x) = (F.read x).opposite := by
  have e : negB x = x ^^^ 2 ^ 63 := rfl
  rw [e]
  have hd : (x ^^^ 2 ^ 63) % 2 ^ 63 = x % 2 ^ 63 := by
    rw [Nat.xor_mod_two_pow]; simp
  have hq : (x ^^^ 2 ^ 63) / 2 ^ 63 % 2 = (x / 2 ^ 63 + 1) % 2 := by
    have h1 : (x ^^^ 2 ^ 63) / 2 ^ 63 = x / 2 ^ 63 ^^^ 1 := by
      rw [← Nat.shiftRight_eq_div_pow, Nat.shiftRight_xor_distrib, Nat.shiftRight_eq_div_pow]
      rfl
    rw [h1]
    have h2 : x / 2 ^ 63 < 2 := by omega
    have : x / 2 ^ 63 = 0 ∨ x / 2 ^ 63 = 1 := by omega
    rcases this with h | h <;> rw [h] <;> rfl
  have hs : ((x ^^^ 2 ^ 63) / 2 ^ 63 % 2 == 1) = !(x / 2 ^ 63 % 2 == 1) := by
    rw [hq]
    have : x / 2 ^ 63 = 0 ∨ x / 2 ^ 63 = 1 := by omega
    rcases this with h | h <;> rw [h] <;> rfl
  unfold Format.read
  dsimp only
  rw [show F.signWeight = 2 ^ 63 from rfl, hd, hs]
  split
  · rfl
  · split
    · rfl
    · split <;> rfl
theorem inf_abs {x : Nat} (wx : x < 2 ^ 64) {s : Bool} (h : F.read x = .infinity s) {b : Nat} (hb : fin b) : leB (absB x) b = false := by
  have hz : F.read 0 = .number false 0 (-1074) := by decide
  obtain ⟨t, m, p, eb, -⟩ := fin_num hb
  have e0 : ltB x 0 = s := by
    unfold ltB
    show (F.order x 0 == some .lt) = s
    unfold Format.order
    rw [h, hz]
    cases s <;> rfl
  have key : ∀ y, F.read y = .infinity false → leB y b = false := by
    intro y hy
    unfold leB
    show (F.order y b == some .lt || F.order y b == some .eq) = false
    unfold Format.order
    rw [hy, eb]; rfl
  unfold absB
  rw [e0]
  cases s
  · exact key x h
  · refine key _ ?_
    rw [if_pos rfl, negB_read wx, h]; rfl
theorem tame {x : Nat} (wx : x < 2 ^ 64) (h : (eqB x x && leB (absB x) 9094988921128908188) = true) : fin x ∧ val (absB x) ≤ 10 ^ 300 + 10 ^ 290 := by
  rw [Bool.and_eq_true] at h
  obtain ⟨fh, vh⟩ := k9094988921128908188
  have fx : fin x := by
    unfold fin
    cases e : F.read x with
    | number s m p => trivial
    | nan s f => have := nan_eqB (y := x) ⟨s, f, e⟩; rw [h.1] at this; cases this
    | infinity s => have := inf_abs wx e fh; rw [h.2] at this; cases this
  obtain ⟨fa, a0, a1, a2⟩ := absB_val wx fx
  have := (leB_iff fa fh).1 h.2
  exact ⟨fx, by grind⟩
theorem plain1 (x y z : Nat) (wx : x < 2 ^ 64) (wy : y < 2 ^ 64) (wz : z < 2 ^ 64) (i0 : (eqB x x && leB (absB x) 9094988921128908188) = true) (i1 : (eqB y y && leB (absB y) 9094988921128908188) = true) (i2 : (eqB z z && leB (absB z) 9094988921128908188) = true) :
    ∃ r0 r1 r2 s0 s1 s2 p t d0 d1 d2 : Nat, Row 4608739758926428405 13821647778546615692 13810898049774936208 x y z r0 ∧ Row 13826452779721249017 4609471295584413373 4581576329749283875 x y z r1 ∧ Row 0 0 4608137035759571601 x y z r2 ∧ Row 4605360807233314590 4594038603377978885 4584678738446791632 r0 r1 r2 s0 ∧ Row 4598861048020904497 4604586933246227991 4545948571150199221 r0 r1 r2 s1 ∧ Row 0 0 4605607101106091995 r0 r1 r2 s2 ∧
    floatBits .mul .f64 4472406533629990549 (max3 (absB x) (absB y) (absB z)) = some p ∧ floatBits .add .f64 p 118622047889322841 = some t ∧
    floatBits .sub .f64 s0 x = some d0 ∧ floatBits .sub .f64 s1 y = some d1 ∧ floatBits .sub .f64 s2 z = some d2 ∧
    leB (absB d0) t = true ∧ leB (absB d1) t = true ∧ leB (absB d2) t = true := by
  obtain ⟨fx, ux⟩ := tame wx i0
  obtain ⟨fy, uy⟩ := tame wy i1
  obtain ⟨fz, uz⟩ := tame wz i2
  obtain ⟨ax, x0, x1, -⟩ := absB_val wx fx
  obtain ⟨ay, y0, y1, -⟩ := absB_val wy fy
  obtain ⟨az, z0, z1, -⟩ := absB_val wz fz
  obtain ⟨fm, mx, my, mz, mU⟩ := max3_val _ _ _ ax ay az
  have mB := mU _ ux uy uz
  have m0 : 0 ≤ val (max3 (absB x) (absB y) (absB z)) := by grind
  clear mU
  generalize max3 (absB x) (absB y) (absB z) = m at *
  have e0 := eta_pos
  have e1 : eta ≤ 1 / 10 ^ 30 := by have := eta_small; grind
  have T := c1000.1
  have T2 := c1000.2
  have T3 := t1000
  obtain ⟨r0, r1, r2, s0, s1, s2, R0, R1, R2, S0, S1, S2, f0, f1, f2, n0, n1, n2⟩ := inv_m x y z fx fy fz (val m) (abs_of_le x1 (by grind)) (abs_of_le y1 (by grind)) (abs_of_le z1 (by grind)) (by grind)
  obtain ⟨k2, v2⟩ := k4472406533629990549
  obtain ⟨k3, v3, v3'⟩ := k300
  obtain ⟨t0, ft0, gt0, nt0⟩ := mul_near _ m k2 fm (val m) (by rw [v2]; grind) (by rw [v2]; grind) (by grind)
  unfold Near at nt0
  rw [v2, uu_val] at nt0
  obtain ⟨t, ft, gt, nt⟩ := add_near t0 _ gt0 k3 (val m + 2 * val 118622047889322841) (by grind) (by grind) (by grind)
  unfold Near at nt
  rw [uu_val] at nt
  have ht : 2 * (val m / 10 ^ 12 + 1000 * eta) + 2 * eta ≤ val t := by grind
  obtain ⟨d0, fd0, l0⟩ := close_ok s0 x t f0 fx gt _ (by grind) n0 ht
  obtain ⟨d1, fd1, l1⟩ := close_ok s1 y t f1 fy gt _ (by grind) n1 ht
  obtain ⟨d2, fd2, l2⟩ := close_ok s2 z t f2 fz gt _ (by grind) n2 ht
  exact ⟨r0, r1, r2, s0, s1, s2, t0, t, d0, d1, d2, R0, R1, R2, S0, S1, S2, ft0, ft, fd0, fd1, fd2, l0, l1, l2⟩
set_option maxHeartbeats 4000000 in
theorem plain2 (u : Nat) (wu : u < 2 ^ 64) (i0 : (eqB u u && leB (absB u) 9094988921128908188) = true) :
    ∃ x0 z0 v0 v1 v2 p t c0 c1 c2 : Nat, floatBits .mul .f64 u 4606860822843362778 = some x0 ∧ floatBits .mul .f64 u 4605607101106091996 = some z0 ∧ Row 4608739758926428405 13821647778546615692 13810898049774936208 x0 u z0 v0 ∧ Row 13826452779721249017 4609471295584413373 4581576329749283875 x0 u z0 v1 ∧ Row 0 0 4608137035759571601 x0 u z0 v2 ∧
    floatBits .mul .f64 4472406533629990549 (absB u) = some p ∧ floatBits .add .f64 p 118622047889322841 = some t ∧
    floatBits .sub .f64 v0 u = some c0 ∧ floatBits .sub .f64 v1 u = some c1 ∧ floatBits .sub .f64 v2 u = some c2 ∧
    leB (absB c0) t = true ∧ leB (absB c1) t = true ∧ leB (absB c2) t = true := by
  obtain ⟨fu, uu⟩ := tame wu i0
  obtain ⟨au, a0, a1, -⟩ := absB_val wu fu
  have e0 := eta_pos
  have e1 : eta ≤ 1 / 10 ^ 30 := by have := eta_small; grind
  have T := c1000.1
  have T2 := c1000.2
  have T3 := t1000
  generalize absB u = a at *
  obtain ⟨kf, kv⟩ := k4606860822843362778
  obtain ⟨mf, mv⟩ := k4605607101106091996
  have ab := a1
  unfold Abs at a1
  obtain ⟨x0, fx0, gx0, nx0⟩ := mul_near u _ fu kf (val a) (by rw [kv]; grind) (by rw [kv]; grind) (by grind)
  obtain ⟨z0, fz0, gz0, nz0⟩ := mul_near u _ fu mf (2 * val a) (by rw [mv]; grind) (by rw [mv]; grind) (by grind)
  unfold Near at nx0 nz0
  rw [kv, uu_val] at nx0
  rw [mv, uu_val] at nz0
  have B1 : Abs (val x0) (2 * val a + 4 * eta) := by unfold Abs; constructor <;> grind
  have B2 : Abs (val u) (2 * val a + 4 * eta) := by unfold Abs; constructor <;> grind
  have B3 : Abs (val z0) (2 * val a + 4 * eta) := by unfold Abs; constructor <;> grind
  have BB : 2 * val a + 4 * eta ≤ two 1000 := by grind
  obtain ⟨p0, q0⟩ := k4608739758926428405
  obtain ⟨p1, q1⟩ := k13821647778546615692
  obtain ⟨p2, q2⟩ := k13810898049774936208
  obtain ⟨p3, q3⟩ := k13826452779721249017
  obtain ⟨p4, q4⟩ := k4609471295584413373
  obtain ⟨p5, q5⟩ := k4581576329749283875
  obtain ⟨p6, q6⟩ := k0
  obtain ⟨p7, q7⟩ := k0
  obtain ⟨p8, q8⟩ := k4608137035759571601
  obtain ⟨v0, R0, g0, n0⟩ := row_near _ _ _ x0 u z0 p0 p1 p2 gx0 fu gz0 (by rw [q0]; unfold Abs; grind) (by rw [q1]; unfold Abs; grind) (by rw [q2]; unfold Abs; grind) _ B1 B2 B3 BB
  unfold Near at n0
  simp only [q0, q1, q2, uu_val] at n0
  obtain ⟨v1, R1, g1, n1⟩ := row_near _ _ _ x0 u z0 p3 p4 p5 gx0 fu gz0 (by rw [q3]; unfold Abs; grind) (by rw [q4]; unfold Abs; grind) (by rw [q5]; unfold Abs; grind) _ B1 B2 B3 BB
  unfold Near at n1
  simp only [q3, q4, q5, uu_val] at n1
  obtain ⟨v2, R2, g2, n2⟩ := row_near _ _ _ x0 u z0 p6 p7 p8 gx0 fu gz0 (by rw [q6]; unfold Abs; grind) (by rw [q7]; unfold Abs; grind) (by rw [q8]; unfold Abs; grind) _ B1 B2 B3 BB
  unfold Near at n2
  simp only [q6, q7, q8, uu_val] at n2
  have N0 : Near (val v0) (val u) (val a / 10 ^ 12 + 1000 * eta) := by clear n1 n2; unfold Near; constructor <;> grind
  have N1 : Near (val v1) (val u) (val a / 10 ^ 12 + 1000 * eta) := by clear n0 n2; unfold Near; constructor <;> grind
  have N2 : Near (val v2) (val u) (val a / 10 ^ 12 + 1000 * eta) := by clear n1 n0; unfold Near; constructor <;> grind
  clear n0 n1 n2 nx0 nz0 B1 B2 B3
  obtain ⟨k2, w2⟩ := k4472406533629990549
  obtain ⟨k3, w3, w3'⟩ := k300
  obtain ⟨t0, ft0, gt0, nt0⟩ := mul_near _ a k2 au (val a) (by rw [w2]; grind) (by rw [w2]; grind) (by grind)
  unfold Near at nt0
  rw [w2, uu_val] at nt0
  obtain ⟨t, ft, gt, nt⟩ := add_near t0 _ gt0 k3 (val a + 2 * val 118622047889322841) (by grind) (by grind) (by grind)
  unfold Near at nt
  rw [uu_val] at nt
  have ht : 2 * (val a / 10 ^ 12 + 1000 * eta) + 2 * eta ≤ val t := by grind
  obtain ⟨d0, fd0, l0⟩ := close_ok v0 u t g0 fu gt _ (by grind) N0 ht
  obtain ⟨d1, fd1, l1⟩ := close_ok v1 u t g1 fu gt _ (by grind) N1 ht
  obtain ⟨d2, fd2, l2⟩ := close_ok v2 u t g2 fu gt _ (by grind) N2 ht
  exact ⟨x0, z0, v0, v1, v2, t0, t, d0, d1, d2, fx0, fz0, R0, R1, R2, ft0, ft, fd0, fd1, fd2, l0, l1, l2⟩
theorem walk (a0 : Nat) (a1 : Nat) (a2 : Nat) (a3 : Nat) (w0 : (Lit.float .f64 a0).wf = true) (w1 : (Lit.float .f64 a1).wf = true) (w2 : (Lit.float .f64 a2).wf = true) (w3 : (Lit.float .f64 a3).wf = true) (w : World) :
    Calls Try.prog 7 #[.float .f64 a0, .float .f64 a1, .float .f64 a2, .float .f64 a3] w fun e w' => e = .returned (.bool true) ∧ Below w.heap.size w w' := by
  by_cases h : ((eqB a0 a0 && leB (absB a0) 9094988921128908188) && (eqB a1 a1 && leB (absB a1) 9094988921128908188) && (eqB a2 a2 && leB (absB a2) 9094988921128908188) && (eqB a3 a3 && leB (absB a3) 9094988921128908188)) = true
  · have h' := h
    rw [Bool.and_eq_true, Bool.and_eq_true, Bool.and_eq_true] at h'
    obtain ⟨⟨⟨i0, i1⟩, i2⟩, i3⟩ := h'
    obtain ⟨r0, r1, r2, s0, s1, s2, p, t, d0, d1, d2, h1, h2, h3, h4, h5, h6, h7, h8, h9, h10, h11, h12, h13, h14⟩ := plain1 a0 a1 a2 (wf_lt w0) (wf_lt w1) (wf_lt w2) i0 i1 i2
    obtain ⟨x0, z0, v0, v1, v2, p', t', c0, c1, c2, g1, g2, g3, g4, g5, g6, g7, g8, g9, g10, g11, g12, g13⟩ := plain2 a3 (wf_lt w3) i3
    exact law_yes a0 a1 a2 a3 r0 r1 r2 s0 s1 s2 p t d0 d1 d2 x0 z0 v0 v1 v2 p' t' c0 c1 c2 w i0 i1 i2 i3 h1 h2 h3 h4 h5 h6 g3 g4 g5 h7 h8 h9 h10 h11 h12 h13 h14 g1 g2 g6 g7 g8 g9 g10 g11 g12 g13
  · exact law_no a0 a1 a2 a3 w (by simpa using h)
-- theorem walk (a0 : Nat) (a1 : Nat) (a2 : Nat) (a3 : Nat) (w0 : (Lit.float .f64 a0).wf = true) (w1 : (Lit.float .f64 a1).wf = true) (w2 : (Lit.float .f64 a2).wf = true) (w3 : (Lit.float .f64 a3).wf = true) (w : World) :
--    Calls Try.prog 7 #[.float .f64 a0, .float .f64 a1, .float .f64 a2, .float .f64 a3] w fun e w' => e = .returned (.bool true) ∧ Below w.heap.size w w'
theorem own : ownKnob Try.prog.godebug = none := by kernel_rfl
set_option maxRecDepth 100000 in
theorem lifted (os : Os) (started : os.Started) (H : Type) (enc : TypeId × Value → H) :
    ReturnsInHanded {} Try.checked os 7 .any (Rows.fnXyzToLinProphotoInvertsForwardAndMapsD50WhiteToGraySpec.pre6 enc Try.prog Try.f7 Rows.fnXyzToLinProphotoInvertsForwardAndMapsD50WhiteToGrayRow.domain false) (Rows.fnXyzToLinProphotoInvertsForwardAndMapsD50WhiteToGraySpec.post enc Try.prog Try.f7 false true false false) := by
  refine returnsInHanded_of_change (C := Try.checked) own started (by kernel_rfl) Try.func7
    (ChangeSpec.witness6 (enc := enc) (C := Try.checked) false ⟨#[], #[.float .f64 0, .float .f64 0, .float .f64 0, .float .f64 0], []⟩ 8 (by kernel_rfl) (by kernel_rfl) (by kernel_rfl) (by kernel_rfl)) ?_
  intro W base args ds gs before hval0 hW hcnd _
  have hval : ∀ (j : Nat) t v, Try.f7.params[j]? = some t → args[j]? = some v → Value.okWide Try.prog W .any base t v := hval0
  have hW' := hW
  obtain ⟨p, q, hA0, hV, rfl, hfz, hnd⟩ := hW
  have hA : DataW.TrodAll enc Try.prog W 0 (fun _ => true) true Try.f7.params.toList args.toList ds p := hA0
  rw [Try.params7] at hA hval
  obtain ⟨v0, vs0, d0, ds0, p0, q0, hargs, rfl, rfl, h0, r0⟩ := trodAll_cons hA
  obtain ⟨v1, vs1, d1, ds1, p1, q1, rfl, rfl, rfl, h1, r1⟩ := trodAll_cons r0
  obtain ⟨v2, vs2, d2, ds2, p2, q2, rfl, rfl, rfl, h2, r2⟩ := trodAll_cons r1
  obtain ⟨v3, vs3, d3, ds3, p3, q3, rfl, rfl, rfl, h3, r3⟩ := trodAll_cons r2
  obtain ⟨rfl, rfl, rfl⟩ := trodAll_nil r3
  obtain rfl : args = #[v0, v1, v2, v3] := by cases args; simp_all
  obtain ⟨rfl, rfl⟩ := trodVars_none hV
  obtain ⟨a0, rfl, rfl, rfl, w0⟩ := open_float Try.underlying22 (hval 0 22 v0 rfl rfl) h0
  obtain ⟨a1, rfl, rfl, rfl, w1⟩ := open_float Try.underlying22 (hval 1 22 v1 rfl rfl) h1
  obtain ⟨a2, rfl, rfl, rfl, w2⟩ := open_float Try.underlying22 (hval 2 22 v2 rfl rfl) h2
  obtain ⟨a3, rfl, rfl, rfl, w3⟩ := open_float Try.underlying22 (hval 3 22 v3 rfl rfl) h3
  clear hA0 hval0
  simp only [List.append_nil] at hW'
  refine (walk a0 a1 a2 a3 w0 w1 w2 w3 W).mono fun e W' ⟨he, bel⟩ => ?_
  subst he
  exact ⟨_, rfl, _, _, _, [], [], [], hW', trodAll_mk1 (shut_bool Try.underlying4 _), (trodAll_cons_mk (shut_float Try.underlying22 w0) (trodAll_cons_mk (shut_float Try.underlying22 w1) (trodAll_cons_mk (shut_float Try.underlying22 w2) (trodAll_cons_mk (shut_float Try.underlying22 w3) trodAll_mk0)))), rfl, bel.frame _, fun h => by cases h⟩

theorem over : Rows.fnXyzToLinProphotoInvertsForwardAndMapsD50WhiteToGrayRow.holds Try.pinned (OpenSpec.ofChange Rows.fnXyzToLinProphotoInvertsForwardAndMapsD50WhiteToGraySpec) :=
  OpenClaim.holds_of_wide 7 Try.f7 rfl rfl rfl rfl rfl rfl rfl ⟨rfl, rfl, rfl, rfl, rfl⟩ rfl rfl rfl rfl rfl (by kernel_rfl) Try.func7 (by kernel_rfl)
    (of_decide_eq_true (by kernel_rfl)) (by unfold Func.isWrapper; first | (rw [if_pos (by decide +kernel)]; kernel_rfl) | (rw [if_neg (by decide +kernel)]; exact ⟨rfl, rfl⟩))
    (fun os started H enc _ => lifted os started H enc)

theorem proved : Rows.FnXyzToLinProphotoInvertsForwardAndMapsD50WhiteToGraySaid :=
  over
#print axioms proved
end Go.Proofs.Ytgflhgjigfpgiaa.fnXyzToLinProphotoInvertsForwardAndMapsD50WhiteToGray

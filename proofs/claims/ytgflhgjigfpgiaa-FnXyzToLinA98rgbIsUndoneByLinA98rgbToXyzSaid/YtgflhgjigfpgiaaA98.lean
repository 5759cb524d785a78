/- Proved: for all float64 x, y, z the law FnXyzToLinA98rgbIsUndoneByLinA98rgbToXyz returns true, and its arguments read afterwards as before. No condition. -/
import Derived.Test.YtgflhgjigfpgiaaMat
import Derived.ShutString
namespace Go.Proofs.Ytgflhgjigfpgiaa.fnXyzToLinA98rgbIsUndoneByLinA98rgbToXyz
open Go.ChangeShapes Go.WideShapes Go.ChangeAt Go.RowKit Go.Sort
open Go.ChangeMaps (open_string shut_string)
open Flt Ieee
set_option linter.unusedVariables false
theorem b2 (x : Bool) : x = true ∨ x = false := by cases x <;> simp
theorem ret_bool {a b : Bool} (h : a = b) : Ending.returned (.bool a) = .returned (.bool b) := by rw [h]
theorem ret_fl {k : FloatKind} {a b : Nat} (h : a = b) : Ending.returned (.float k a) = .returned (.float k b) := by rw [h]
theorem neg_fl (x : Nat) (w : World) : (Op.unary .neg (.float .f64 x)).run Try.prog w = .ok (.float .f64 (negB x)) w := rfl
theorem c1000 : (10 : Rat) ^ 301 ≤ two 1000 ∧ two 1000 < two 1022 := by unfold two; decide +kernel
/-- the difference of two words that lie close, held against a tolerance -/
theorem close_ok (x2 x t : Nat) (f2 : fin x2) (fx : fin x) (ft : fin t) (E : Rat) (hE : E ≤ two 1000) (n : Near (val x2) (val x) E) (ht : 2 * E + 2 * eta ≤ val t) :
    ∃ d, floatBits .sub .f64 x2 x = some d ∧ leB (absB d) t = true := by
  have T := t1000
  have e0 := eta_pos
  unfold Near at n
  obtain ⟨d, fd, gd, nd⟩ := sub_near x2 x f2 fx E (by grind) (by grind) (by grind)
  refine ⟨d, fd, ?_⟩
  obtain ⟨ga, g0, g1, g2⟩ := absB_val (bits_lt fd) gd
  rw [leB_iff ga ft]
  unfold Near at nd
  rw [uu_val] at nd
  rcases g2 with g2 | g2 <;> grind
def maxB (a b : Nat) : Nat := if gtB b a then b else a
theorem maxB_val {a b : Nat} (ha : fin a) (hb : fin b) : fin (maxB a b) ∧ val a ≤ val (maxB a b) ∧ val b ≤ val (maxB a b) ∧ (val (maxB a b) = val a ∨ val (maxB a b) = val b) := by
  have := gtB_iff hb ha
  unfold maxB
  by_cases h : gtB b a = true
  · rw [if_pos h]
    have := this.1 h
    exact ⟨hb, by grind, Rat.le_refl, Or.inr rfl⟩
  · rw [if_neg h]
    have : ¬ val a < val b := fun c => h (this.2 c)
    exact ⟨ha, Rat.le_refl, by grind, Or.inl rfl⟩
theorem abs_of_le {a b c : Rat} (h : Abs a b) (h2 : b ≤ c) : Abs a c := by unfold Abs at *; grind
def isNan (x : Nat) : Prop := ∃ s f, F.read x = .nan s f
theorem nan_word (v : Nat) : isNan ((v % 2) * 2 ^ 63 + 0x7ff0000000000000 + 1 + (v / 2) % (2 ^ 52 - 1)) := by
  have hm : (v / 2) % (2 ^ 52 - 1) < 2 ^ 52 - 1 := Nat.mod_lt _ (by decide)
  generalize (v / 2) % (2 ^ 52 - 1) = m at *
  have hs : v % 2 < 2 := Nat.mod_lt _ (by decide)
  generalize v % 2 = s at *
  have hr : (s * 2 ^ 63 + 0x7ff0000000000000 + 1 + m) % 2 ^ 63 = 0x7ff0000000000000 + 1 + m := by omega
  unfold isNan Format.read
  dsimp only
  rw [show F.signWeight = 2 ^ 63 from rfl, hr, show F.binade = 2 ^ 52 from rfl, show F.infRung = 0x7ff0000000000000 from by decide]
  rw [if_neg (by omega), if_neg (by omega), if_neg (by omega)]
  exact ⟨_, _, rfl⟩
theorem nan_run {P : Program} (w : World) (op : BinOp) (t : TypeId) (x y : Nat) (ho : op = .add ∨ op = .sub ∨ op = .mul ∨ op = .quo) (h : floatBits op .f64 x y = none) :
    ∃ r, (binOp op t (.float .f64 x) (.float .f64 y)).run P w = .ok (.float .f64 r) w.drew ∧ isNan r ∧ r < 2 ^ 64 := by
  refine ⟨_, ?_, nan_word (w.tape w.drawn (.nanBits .f64 x y)), ?_⟩
  · rcases ho with rfl | rfl | rfl | rfl <;> simp [binOp, Op.floatArith, floatBits] at h ⊢ <;> simp [h] <;> (rw [if_neg (by simp [Question.forced])]; rfl)
  · omega
theorem nan_order {x y : Nat} (h : isNan x) : F.order x y = none := by
  obtain ⟨s, f, e⟩ := h
  unfold Format.order
  rw [e]
  cases F.read y <;> rfl
theorem nan_order' {x y : Nat} (h : isNan y) : F.order x y = none := by
  obtain ⟨s, f, e⟩ := h
  unfold Format.order
  rw [e]
  cases F.read x <;> rfl
theorem nan_eqB {x y : Nat} (h : isNan x) : eqB x y = false := by
  have := nan_order (y := y) h
  unfold eqB
  show (F.order x y == some .eq) = false
  rw [this]; rfl
/-- x - x of a finite x: zero -/
theorem sub_self' {x : Nat} (hx : fin x) : floatBits .sub .f64 x x = some 0 := by
  obtain ⟨s, m, p, e, -⟩ := fin_num hx
  show ((F.read x).sum (F.read x).opposite).map F.write = some 0
  rw [e]
  show (some (F.write (.number (if signed s m (p - min p p).toNat + signed (!s) m (p - min p p).toNat = 0 then s && !s else decide (signed s m (p - min p p).toNat + signed (!s) m (p - min p p).toNat < 0)) (signed s m (p - min p p).toNat + signed (!s) m (p - min p p).toNat).natAbs (min p p)))) = some 0
  have h0 : signed s m (p - min p p).toNat + signed (!s) m (p - min p p).toNat = 0 := by
    unfold signed; cases s <;> simp <;> omega
  rw [h0, if_pos rfl]
  cases s <;> rfl
theorem eqB_self {x : Nat} (hx : fin x) : eqB x x = true := (eqB_iff hx hx).2 rfl
/-- a word that is no number and no NaN: an infinity: the difference is no number -/
theorem sub_inf {x : Nat} (hx : ¬ fin x) (hn : ¬ isNan x) : floatBits .sub .f64 x x = none := by
  show ((F.read x).sum (F.read x).opposite).map F.write = none
  unfold fin at hx
  cases e : F.read x with
  | number s m p => rw [e] at hx; exact (hx trivial).elim
  | nan s f => exact (hn ⟨s, f, e⟩).elim
  | infinity s => cases s <;> rfl
theorem k4611779666061440502 : fin 4611779666061440502 ∧ val 4611779666061440502 = 2298623630711547 / 1125899906842624 := const_val (by decide +kernel) (by decide +kernel)
theorem k13826636386797700231 : fin 13826636386797700231 ∧ val 13826636386797700231 = -5089130397648007 / 9007199254740992 := const_val (by decide +kernel) (by decide +kernel)
theorem k13823253784704314578 : fin 13823253784704314578 ∧ val 13823253784704314578 = -3105063965816425 / 9007199254740992 := const_val (by decide +kernel) (by decide +kernel)
theorem k13830277426958423814 : fin 13830277426958423814 ∧ val 13830277426958423814 = -4365085279185795 / 4503599627370496 := const_val (by decide +kernel) (by decide +kernel)
theorem k4611127425713396243 : fin 4611127425713396243 ∧ val 4611127425713396243 = 8448606540749331 / 4503599627370496 := const_val (by decide +kernel) (by decide +kernel)
theorem k4586149535949532533 : fin 4586149535949532533 ∧ val 4586149535949532533 = 5988714913738101 / 144115188075855872 := const_val (by decide +kernel) (by decide +kernel)
theorem k4578903721908372390 : fin 4578903721908372390 ∧ val 4578903721908372390 = 3875050063659475 / 288230376151711744 := const_val (by decide +kernel) (by decide +kernel)
theorem k13816565366726681444 : fin 13816565366726681444 ∧ val 13816565366726681444 = -2132227302185177 / 18014398509481984 := const_val (by decide +kernel) (by decide +kernel)
theorem k4607250760899102990 : fin 4607250760899102990 ∧ val 4607250760899102990 = 2285970863228039 / 2251799813685248 := const_val (by decide +kernel) (by decide +kernel)
theorem k4603369392518808747 : fin 4603369392518808747 ∧ val 4603369392518808747 = 5194172973532331 / 9007199254740992 := const_val (by decide +kernel) (by decide +kernel)
theorem k4595853460379267005 : fin 4595853460379267005 ∧ val 4595853460379267005 = 6685440088731581 / 36028797018963968 := const_val (by decide +kernel) (by decide +kernel)
theorem k4595949671978890425 : fin 4595949671978890425 ∧ val 4595949671978890425 = 6781651688355001 / 36028797018963968 := const_val (by decide +kernel) (by decide +kernel)
theorem k4599028110796861136 : fin 4599028110796861136 ∧ val 4599028110796861136 = 334780679934701 / 1125899906842624 := const_val (by decide +kernel) (by decide +kernel)
theorem k4603826008191704300 : fin 4603826008191704300 ∧ val 4603826008191704300 = 1412697161606971 / 2251799813685248 := const_val (by decide +kernel) (by decide +kernel)
theorem k4590089742013848929 : fin 4590089742013848929 ∧ val 4590089742013848929 = 5425321350684001 / 72057594037927936 := const_val (by decide +kernel) (by decide +kernel)
theorem k4583448480868722432 : fin 4583448480868722432 ∧ val 4583448480868722432 = 30434607266791 / 1125899906842624 := const_val (by decide +kernel) (by decide +kernel)
theorem k4589758089302198513 : fin 4589758089302198513 ∧ val 4589758089302198513 = 5093668639033585 / 72057594037927936 := const_val (by decide +kernel) (by decide +kernel)
theorem k4607104394268277168 : fin 4607104394268277168 ∧ val 4607104394268277168 = 558073420187547 / 562949953421312 := const_val (by decide +kernel) (by decide +kernel)
set_option maxHeartbeats 4000000 in
theorem inv_m (x y z : Nat) (fx : fin x) (fy : fin y) (fz : fin z) (B : Rat) (hx : Abs (val x) B) (hy : Abs (val y) B) (hz : Abs (val z) B) (hB : B ≤ 10 ^ 300) :
    ∃ r0 r1 r2 s0 s1 s2 : Nat, Row 4611779666061440502 13826636386797700231 13823253784704314578 x y z r0 ∧ Row 13830277426958423814 4611127425713396243 4586149535949532533 x y z r1 ∧ Row 4578903721908372390 13816565366726681444 4607250760899102990 x y z r2 ∧ Row 4603369392518808747 4595853460379267005 4595949671978890425 r0 r1 r2 s0 ∧ Row 4599028110796861136 4603826008191704300 4590089742013848929 r0 r1 r2 s1 ∧ Row 4583448480868722432 4589758089302198513 4607104394268277168 r0 r1 r2 s2 ∧ fin s0 ∧ fin s1 ∧ fin s2 ∧ Near (val s0) (val x) (B / 10 ^ 12 + 1000 * eta) ∧ Near (val s1) (val y) (B / 10 ^ 12 + 1000 * eta) ∧ Near (val s2) (val z) (B / 10 ^ 12 + 1000 * eta) := by
  have T := c1000.1
  have e0 := eta_pos
  have e1 : eta ≤ 1 / 10 ^ 10 := by have := eta_small; grind
  have B0 : 0 ≤ B := by unfold Abs at hx; grind
  have BB : B ≤ two 1000 := by grind
  obtain ⟨p0, q0⟩ := k4611779666061440502
  obtain ⟨p1, q1⟩ := k13826636386797700231
  obtain ⟨p2, q2⟩ := k13823253784704314578
  obtain ⟨p3, q3⟩ := k13830277426958423814
  obtain ⟨p4, q4⟩ := k4611127425713396243
  obtain ⟨p5, q5⟩ := k4586149535949532533
  obtain ⟨p6, q6⟩ := k4578903721908372390
  obtain ⟨p7, q7⟩ := k13816565366726681444
  obtain ⟨p8, q8⟩ := k4607250760899102990
  obtain ⟨c0, v0⟩ := k4603369392518808747
  obtain ⟨c1, v1⟩ := k4595853460379267005
  obtain ⟨c2, v2⟩ := k4595949671978890425
  obtain ⟨c3, v3⟩ := k4599028110796861136
  obtain ⟨c4, v4⟩ := k4603826008191704300
  obtain ⟨c5, v5⟩ := k4590089742013848929
  obtain ⟨c6, v6⟩ := k4583448480868722432
  obtain ⟨c7, v7⟩ := k4589758089302198513
  obtain ⟨c8, v8⟩ := k4607104394268277168
  obtain ⟨r0, R0, g0, n0⟩ := row_near _ _ _ x y z p0 p1 p2 fx fy fz (by rw [q0]; unfold Abs; grind) (by rw [q1]; unfold Abs; grind) (by rw [q2]; unfold Abs; grind) B hx hy hz BB
  unfold Near at n0
  simp only [q0, q1, q2, uu_val] at n0
  obtain ⟨r1, R1, g1, n1⟩ := row_near _ _ _ x y z p3 p4 p5 fx fy fz (by rw [q3]; unfold Abs; grind) (by rw [q4]; unfold Abs; grind) (by rw [q5]; unfold Abs; grind) B hx hy hz BB
  unfold Near at n1
  simp only [q3, q4, q5, uu_val] at n1
  obtain ⟨r2, R2, g2, n2⟩ := row_near _ _ _ x y z p6 p7 p8 fx fy fz (by rw [q6]; unfold Abs; grind) (by rw [q7]; unfold Abs; grind) (by rw [q8]; unfold Abs; grind) B hx hy hz BB
  unfold Near at n2
  simp only [q6, q7, q8, uu_val] at n2
  have X := hx; have Y := hy; have Z := hz
  unfold Abs at X Y Z
  have b0 : Abs (val r0) (6 * B + 20 * eta) := by unfold Abs; constructor <;> grind
  have b1 : Abs (val r1) (6 * B + 20 * eta) := by unfold Abs; constructor <;> grind
  have b2 : Abs (val r2) (6 * B + 20 * eta) := by unfold Abs; constructor <;> grind
  have B2 : 6 * B + 20 * eta ≤ two 1000 := by grind
  obtain ⟨s0, S0, h0, m0⟩ := row_near _ _ _ r0 r1 r2 c0 c1 c2 g0 g1 g2 (by rw [v0]; unfold Abs; grind) (by rw [v1]; unfold Abs; grind) (by rw [v2]; unfold Abs; grind) _ b0 b1 b2 B2
  unfold Near at m0
  simp only [v0, v1, v2, uu_val] at m0
  obtain ⟨s1, S1, h1, m1⟩ := row_near _ _ _ r0 r1 r2 c3 c4 c5 g0 g1 g2 (by rw [v3]; unfold Abs; grind) (by rw [v4]; unfold Abs; grind) (by rw [v5]; unfold Abs; grind) _ b0 b1 b2 B2
  unfold Near at m1
  simp only [v3, v4, v5, uu_val] at m1
  obtain ⟨s2, S2, h2, m2⟩ := row_near _ _ _ r0 r1 r2 c6 c7 c8 g0 g1 g2 (by rw [v6]; unfold Abs; grind) (by rw [v7]; unfold Abs; grind) (by rw [v8]; unfold Abs; grind) _ b0 b1 b2 B2
  unfold Near at m2
  simp only [v6, v7, v8, uu_val] at m2
  clear b0 b1 b2
  refine ⟨r0, r1, r2, s0, s1, s2, R0, R1, R2, S0, S1, S2, h0, h1, h2, ?_, ?_, ?_⟩
  · clear m1 m2; unfold Near; constructor <;> grind
  · clear m0 m2; unfold Near; constructor <;> grind
  · clear m0 m1; unfold Near; constructor <;> grind
theorem k6850974717710472879 : fin 6850974717710472879 ∧ val 6850974717710472879 ≤ 10 ^ 151 := ⟨fin_of (by decide +kernel), by decide +kernel⟩
theorem k300 : fin 118622047889322841 ∧ 10 ^ 15 * eta ≤ val 118622047889322841 ∧ val 118622047889322841 ≤ 1 := ⟨fin_of (by decide +kernel), by unfold eta; decide +kernel, by decide +kernel⟩
theorem k4517329193108106637 : fin 4517329193108106637 ∧ val 4517329193108106637 = 4722366482869645 / 4722366482869645213696 := const_val (by decide +kernel) (by decide +kernel)
theorem abs_c (x : Nat) (w : World) : Calls Try.prog 22 #[.float .f64 x] w fun e w' => e = .returned (.float .f64 (absB x)) ∧ w = w' := by
  have hn := neg_fl
  go_enter Try.func22, Try.ntmps22
  go_wp2
  · go_ret
    exact ⟨ret_fl (by unfold absB ltB; rw [if_pos ‹_›]), rfl⟩
  · go_ret
    exact ⟨ret_fl (by unfold absB ltB; rw [if_neg (by simp [*])]), rfl⟩
theorem close_c (x y t d : Nat) (w : World) (h : floatBits .sub .f64 x y = some d) : Calls Try.prog 26 #[.float .f64 x, .float .f64 y, .float .f64 t] w fun e w' => e = .returned (.bool (leB (absB d) t)) ∧ w = w' := by
  have hn := neg_fl
  have k := fun w => run_float_arith (P := Try.prog) w .sub 22 .f64 _ _ _ h
  clear h
  go_enter Try.func26, Try.ntmps26
  go_wp2
  · go_ret
    exact ⟨ret_bool (by unfold absB ltB; rw [if_pos ‹_›]; rfl), rfl⟩
  · go_ret
    exact ⟨ret_bool (by unfold absB ltB; rw [if_neg (by simp [*])]; rfl), rfl⟩
theorem finT_c (x : Nat) (w : World) (hx : fin x) : Calls Try.prog 21 #[.float .f64 x] w fun e w' => e = .returned (.bool true) ∧ w = w' := by
  have k := fun w => run_float_arith (P := Try.prog) w .sub 22 .f64 _ _ _ (sub_self' hx)
  have e1 : (FloatKind.f64.format.order x x == some .eq) = true := eqB_self hx
  have e2 : (FloatKind.f64.format.order 0 0 == some .eq) = true := eqB_self zero_fin.1
  go_enter Try.func21, Try.ntmps21
  go_wp2
  go_ret
  exact ⟨rfl, rfl⟩
theorem finF_c (x : Nat) (w : World) (hx : ¬ fin x) : Calls Try.prog 21 #[.float .f64 x] w fun e w' => e = .returned (.bool false) ∧ Below w.heap.size w w' := by
  by_cases hn : isNan x
  · have e1 : (FloatKind.f64.format.order x x == some .eq) = false := nan_eqB hn
    clear hx
    go_enter Try.func21, Try.ntmps21
    go_wp2
    go_ret
    exact ⟨rfl, Below.refl _ _⟩
  · obtain ⟨r, hr, hnan, -⟩ := nan_run (P := Try.prog) w .sub 22 x x (by simp) (sub_inf hx hn)
    have e1 : (FloatKind.f64.format.order x x == some .eq) = true := by
      cases e : F.read x with
      | number s m p => exact (hx (by unfold fin; rw [e]; trivial)).elim
      | nan s f => exact (hn ⟨s, f, e⟩).elim
      | infinity s =>
        show (F.order x x == some .eq) = true
        unfold Format.order
        rw [e]
        cases s <;> rfl
    have e2 : (FloatKind.f64.format.order r 0 == some .eq) = false := nan_eqB hnan
    clear hx hn hnan
    go_enter Try.func21, Try.ntmps21
    go_wp2
    go_ret
    exact ⟨rfl, ⟨rfl, rfl, rfl, Nat.le_refl _, fun _ _ => rfl⟩⟩
def max3 (a b c : Nat) : Nat := maxB (maxB a b) c
theorem max_c (a b c : Nat) (w : World) : Calls Try.prog 23 #[.float .f64 a, .float .f64 b, .float .f64 c] w fun e w' => e = .returned (.float .f64 (max3 a b c)) ∧ w = w' := by
  go_enter Try.func23, Try.ntmps23
  go_wp2
  all_goals
    go_ret
    refine ⟨ret_fl ?_, rfl⟩
    unfold max3 maxB gtB
    simp [*]
set_option maxRecDepth 100000 in
set_option maxHeartbeats 1000000 in
theorem law_nf (x y z : Nat) (w : World) (h : ¬ (fin x ∧ fin y ∧ fin z)) :
    Calls Try.prog 6 #[.float .f64 x, .float .f64 y, .float .f64 z] w fun e w' => e = .returned (.bool true) ∧ Below w.heap.size w w' := by
  by_cases h1 : fin x
  · by_cases h2 : fin y
    · have h3 : ¬ fin z := fun c => h ⟨h1, h2, c⟩
      clear h
      go_enter Try.func6, Try.ntmps6
      go_wp2_with (first | (go_at_call 21; refine (finT_c _ _ ‹fin _›).mono ?_; rintro e w' ⟨rfl, rfl⟩) | (go_at_call 21; refine (finF_c _ _ ‹¬ fin _›).mono ?_; rintro e w' ⟨rfl, hb⟩))
      go_ret
      exact ⟨rfl, hb⟩
    · clear h
      go_enter Try.func6, Try.ntmps6
      go_wp2_with (first | (go_at_call 21; refine (finT_c _ _ ‹fin _›).mono ?_; rintro e w' ⟨rfl, rfl⟩) | (go_at_call 21; refine (finF_c _ _ ‹¬ fin _›).mono ?_; rintro e w' ⟨rfl, hb⟩))
      go_ret
      exact ⟨rfl, hb⟩
  · clear h
    go_enter Try.func6, Try.ntmps6
    go_wp2_with (first | (go_at_call 21; refine (finT_c _ _ ‹fin _›).mono ?_; rintro e w' ⟨rfl, rfl⟩) | (go_at_call 21; refine (finF_c _ _ ‹¬ fin _›).mono ?_; rintro e w' ⟨rfl, hb⟩))
    go_ret
    exact ⟨rfl, hb⟩
set_option maxRecDepth 100000 in
set_option maxHeartbeats 1000000 in
theorem law_big (x y z : Nat) (w : World) (h1 : fin x) (h2 : fin y) (h3 : fin z) (h : (gtB (absB x) 6850974717710472879 || gtB (absB y) 6850974717710472879 || gtB (absB z) 6850974717710472879) = true) :
    Calls Try.prog 6 #[.float .f64 x, .float .f64 y, .float .f64 z] w fun e w' => e = .returned (.bool true) ∧ Below w.heap.size w w' := by
  rcases b2 (gtB (absB x) 6850974717710472879) with b | b
  · have b' : (FloatKind.f64.format.order (absB x) 6850974717710472879 == some .gt) = true := b
    clear h b
    go_enter Try.func6, Try.ntmps6
    go_wp2_with (first | (go_at_call 21; refine (finT_c _ _ ‹fin _›).mono ?_; rintro e w' ⟨rfl, rfl⟩) | (go_at_call 22; refine (abs_c _ _).mono ?_; rintro e w' ⟨rfl, rfl⟩))
    go_ret
    exact ⟨rfl, Below.refl _ _⟩
  · have b' : (FloatKind.f64.format.order (absB x) 6850974717710472879 == some .gt) = false := b
    rcases b2 (gtB (absB y) 6850974717710472879) with c | c
    · have c' : (FloatKind.f64.format.order (absB y) 6850974717710472879 == some .gt) = true := c
      clear h b c
      go_enter Try.func6, Try.ntmps6
      go_wp2_with (first | (go_at_call 21; refine (finT_c _ _ ‹fin _›).mono ?_; rintro e w' ⟨rfl, rfl⟩) | (go_at_call 22; refine (abs_c _ _).mono ?_; rintro e w' ⟨rfl, rfl⟩))
      go_ret
      exact ⟨rfl, Below.refl _ _⟩
    · have c' : (FloatKind.f64.format.order (absB y) 6850974717710472879 == some .gt) = false := c
      have d' : (FloatKind.f64.format.order (absB z) 6850974717710472879 == some .gt) = true := by rw [b, c] at h; exact (by simpa using h : gtB (absB z) 6850974717710472879 = true)
      clear h b c
      go_enter Try.func6, Try.ntmps6
      go_wp2_with (first | (go_at_call 21; refine (finT_c _ _ ‹fin _›).mono ?_; rintro e w' ⟨rfl, rfl⟩) | (go_at_call 22; refine (abs_c _ _).mono ?_; rintro e w' ⟨rfl, rfl⟩))
      go_ret
      exact ⟨rfl, Below.refl _ _⟩
set_option maxRecDepth 100000 in
set_option maxHeartbeats 1000000 in
theorem law_yes (x y z r0 r1 r2 s0 s1 s2 t0 t d0 d1 d2 : Nat) (w : World) (f0 : fin x) (f1 : fin y) (f2 : fin z) (i0 : gtB (absB x) 6850974717710472879 = false) (i1 : gtB (absB y) 6850974717710472879 = false) (i2 : gtB (absB z) 6850974717710472879 = false)
    (h0 : Row 4611779666061440502 13826636386797700231 13823253784704314578 x y z r0) (h1 : Row 13830277426958423814 4611127425713396243 4586149535949532533 x y z r1) (h2 : Row 4578903721908372390 13816565366726681444 4607250760899102990 x y z r2) (g0 : Row 4603369392518808747 4595853460379267005 4595949671978890425 r0 r1 r2 s0) (g1 : Row 4599028110796861136 4603826008191704300 4590089742013848929 r0 r1 r2 s1) (g2 : Row 4583448480868722432 4589758089302198513 4607104394268277168 r0 r1 r2 s2)
    (ht0 : floatBits .mul .f64 4517329193108106637 (max3 (absB x) (absB y) (absB z)) = some t0) (ht : floatBits .add .f64 t0 118622047889322841 = some t)
    (hd0 : floatBits .sub .f64 s0 x = some d0) (hd1 : floatBits .sub .f64 s1 y = some d1) (hd2 : floatBits .sub .f64 s2 z = some d2)
    (l0 : leB (absB d0) t = true) (l1 : leB (absB d1) t = true) (l2 : leB (absB d2) t = true) :
    Calls Try.prog 6 #[.float .f64 x, .float .f64 y, .float .f64 z] w fun e w' => e = .returned (.bool true) ∧ Below w.heap.size w w' := by
  have j0 : (FloatKind.f64.format.order (absB x) 6850974717710472879 == some .gt) = false := i0
  have j1 : (FloatKind.f64.format.order (absB y) 6850974717710472879 == some .gt) = false := i1
  have j2 : (FloatKind.f64.format.order (absB z) 6850974717710472879 == some .gt) = false := i2
  have k3 := fun w => run_float_arith (P := Try.prog) w .mul 22 .f64 _ _ _ ht0
  have k4 := fun w => run_float_arith (P := Try.prog) w .add 22 .f64 _ _ _ ht
  have H0 := Lib.hid h0; have H1 := Lib.hid h1; have H2 := Lib.hid h2
  have G0 := Lib.hid g0; have G1 := Lib.hid g1; have G2 := Lib.hid g2
  have D0 := Lib.hid hd0; have D1 := Lib.hid hd1; have D2 := Lib.hid hd2
  clear h0 h1 h2 g0 g1 g2 ht0 ht hd0 hd1 hd2 i0 i1 i2
  go_enter Try.func6, Try.ntmps6
  go_wp2_with (first | (go_at_call 21; refine (finT_c _ _ ‹fin _›).mono ?_; rintro e w' ⟨rfl, rfl⟩) | (go_at_call 22; refine (abs_c _ _).mono ?_; rintro e w' ⟨rfl, rfl⟩) | (go_at_call 23; refine (max_c _ _ _ _).mono ?_; rintro e w' ⟨rfl, rfl⟩) | (go_at_call 24; (with_reducible refine (ZZXyzToLinA98rgb_n011_226_c _ _ _ _ _ _ _ H0.out H1.out H2.out).mono ?_); rintro e w' ⟨rfl, hb⟩) | (go_at_call 25; (with_reducible refine (ZZLinA98rgbToXyz_n011_226_c _ _ _ _ _ _ _ G0.out G1.out G2.out).mono ?_); rintro e w2 ⟨rfl, hb2⟩; replace hb := hb.trans (hb2.mono hb.size); clear hb2) | (go_at_call 26; (with_reducible refine (close_c _ _ _ _ _ D0.out).mono ?_); rintro e w' ⟨rfl, rfl⟩) | (go_at_call 26; (with_reducible refine (close_c _ _ _ _ _ D1.out).mono ?_); rintro e w' ⟨rfl, rfl⟩) | (go_at_call 26; (with_reducible refine (close_c _ _ _ _ _ D2.out).mono ?_); rintro e w' ⟨rfl, rfl⟩))
  go_ret
  exact ⟨rfl, hb⟩
theorem max3_val (a b c : Nat) (fa : fin a) (fb : fin b) (fc : fin c) : fin (max3 a b c) ∧ val a ≤ (val (max3 a b c)) ∧ val b ≤ (val (max3 a b c)) ∧ val c ≤ (val (max3 a b c)) ∧ (∀ M, val a ≤ M → val b ≤ M → val c ≤ M → val (max3 a b c) ≤ M) := by
  obtain ⟨fm, m0, m1, m2⟩ := maxB_val fa fb
  obtain ⟨fn, n0, n1, n2⟩ := maxB_val fm fc
  unfold max3
  refine ⟨fn, by grind, by grind, by grind, ?_⟩
  intro M p q r
  rcases n2 with e | e <;> rcases m2 with f | f <;> grind
theorem tame {x : Nat} (wx : x < 2 ^ 64) (fx : fin x) (h : gtB (absB x) 6850974717710472879 = false) : val (absB x) ≤ 10 ^ 151 := by
  obtain ⟨fh, vh⟩ := k6850974717710472879
  obtain ⟨fa, a0, a1, a2⟩ := absB_val wx fx
  have := gtB_iff fa fh
  rw [h] at this
  simp at this
  grind
theorem plain (x y z : Nat) (wx : x < 2 ^ 64) (wy : y < 2 ^ 64) (wz : z < 2 ^ 64) (fx : fin x) (fy : fin y) (fz : fin z) (i0 : gtB (absB x) 6850974717710472879 = false) (i1 : gtB (absB y) 6850974717710472879 = false) (i2 : gtB (absB z) 6850974717710472879 = false) :
    ∃ r0 r1 r2 s0 s1 s2 t0 t d0 d1 d2 : Nat, Row 4611779666061440502 13826636386797700231 13823253784704314578 x y z r0 ∧ Row 13830277426958423814 4611127425713396243 4586149535949532533 x y z r1 ∧ Row 4578903721908372390 13816565366726681444 4607250760899102990 x y z r2 ∧ Row 4603369392518808747 4595853460379267005 4595949671978890425 r0 r1 r2 s0 ∧ Row 4599028110796861136 4603826008191704300 4590089742013848929 r0 r1 r2 s1 ∧ Row 4583448480868722432 4589758089302198513 4607104394268277168 r0 r1 r2 s2 ∧
    floatBits .mul .f64 4517329193108106637 (max3 (absB x) (absB y) (absB z)) = some t0 ∧ floatBits .add .f64 t0 118622047889322841 = some t ∧
    floatBits .sub .f64 s0 x = some d0 ∧ floatBits .sub .f64 s1 y = some d1 ∧ floatBits .sub .f64 s2 z = some d2 ∧
    leB (absB d0) t = true ∧ leB (absB d1) t = true ∧ leB (absB d2) t = true := by
  have ux := tame wx fx i0
  have uy := tame wy fy i1
  have uz := tame wz fz i2
  obtain ⟨ax, x0, x1, -⟩ := absB_val wx fx
  obtain ⟨ay, y0, y1, -⟩ := absB_val wy fy
  obtain ⟨az, z0, z1, -⟩ := absB_val wz fz
  obtain ⟨fm, mx, my, mz, mU⟩ := max3_val _ _ _ ax ay az
  have mB := mU _ ux uy uz
  have m0 : 0 ≤ val (max3 (absB x) (absB y) (absB z)) := by grind
  clear mU
  generalize max3 (absB x) (absB y) (absB z) = m at *
  have e0 := eta_pos
  have e1 : eta ≤ 1 / 10 ^ 30 := by have := eta_small; grind
  have T := c1000.1
  have T2 := c1000.2
  have T3 := t1000
  obtain ⟨r0, r1, r2, s0, s1, s2, R0, R1, R2, S0, S1, S2, f0, f1, f2, n0, n1, n2⟩ := inv_m x y z fx fy fz (val m) (abs_of_le x1 (by grind)) (abs_of_le y1 (by grind)) (abs_of_le z1 (by grind)) (by grind)
  obtain ⟨k2, v2⟩ := k4517329193108106637
  obtain ⟨k3, v3, v3'⟩ := k300
  obtain ⟨t0, ft0, gt0, nt0⟩ := mul_near _ m k2 fm (val m) (by rw [v2]; grind) (by rw [v2]; grind) (by grind)
  unfold Near at nt0
  rw [v2, uu_val] at nt0
  obtain ⟨t, ft, gt, nt⟩ := add_near t0 _ gt0 k3 (val m + 2 * val 118622047889322841) (by grind) (by grind) (by grind)
  unfold Near at nt
  rw [uu_val] at nt
  have ht : 2 * (val m / 10 ^ 12 + 1000 * eta) + 2 * eta ≤ val t := by grind
  obtain ⟨d0, fd0, l0⟩ := close_ok s0 x t f0 fx gt _ (by grind) n0 ht
  obtain ⟨d1, fd1, l1⟩ := close_ok s1 y t f1 fy gt _ (by grind) n1 ht
  obtain ⟨d2, fd2, l2⟩ := close_ok s2 z t f2 fz gt _ (by grind) n2 ht
  exact ⟨r0, r1, r2, s0, s1, s2, t0, t, d0, d1, d2, R0, R1, R2, S0, S1, S2, ft0, ft, fd0, fd1, fd2, l0, l1, l2⟩
theorem walk (a0 : Nat) (a1 : Nat) (a2 : Nat) (w0 : (Lit.float .f64 a0).wf = true) (w1 : (Lit.float .f64 a1).wf = true) (w2 : (Lit.float .f64 a2).wf = true) (w : World) :
    Calls Try.prog 6 #[.float .f64 a0, .float .f64 a1, .float .f64 a2] w fun e w' => e = .returned (.bool true) ∧ Below w.heap.size w w' := by
  by_cases hf : fin a0 ∧ fin a1 ∧ fin a2
  · obtain ⟨f0, f1, f2⟩ := hf
    by_cases h : (gtB (absB a0) 6850974717710472879 || gtB (absB a1) 6850974717710472879 || gtB (absB a2) 6850974717710472879) = true
    · exact law_big a0 a1 a2 w f0 f1 f2 h
    · have h' : (gtB (absB a0) 6850974717710472879 || gtB (absB a1) 6850974717710472879 || gtB (absB a2) 6850974717710472879) = false := by simpa using h
      rw [Bool.or_eq_false_iff, Bool.or_eq_false_iff] at h'
      obtain ⟨⟨i0, i1⟩, i2⟩ := h'
      obtain ⟨r0, r1, r2, s0, s1, s2, t0, t, d0, d1, d2, h1, h2, h3, h4, h5, h6, h7, h8, h9, h10, h11, h12, h13, h14⟩ := plain a0 a1 a2 (wf_lt w0) (wf_lt w1) (wf_lt w2) f0 f1 f2 i0 i1 i2
      exact law_yes a0 a1 a2 r0 r1 r2 s0 s1 s2 t0 t d0 d1 d2 w f0 f1 f2 i0 i1 i2 h1 h2 h3 h4 h5 h6 h7 h8 h9 h10 h11 h12 h13 h14
  · exact law_nf a0 a1 a2 w hf
-- theorem walk (a0 : Nat) (a1 : Nat) (a2 : Nat) (w0 : (Lit.float .f64 a0).wf = true) (w1 : (Lit.float .f64 a1).wf = true) (w2 : (Lit.float .f64 a2).wf = true) (w : World) :
--    Calls Try.prog 6 #[.float .f64 a0, .float .f64 a1, .float .f64 a2] w fun e w' => e = .returned (.bool true) ∧ Below w.heap.size w w'
theorem own : ownKnob Try.prog.godebug = none := by kernel_rfl
set_option maxRecDepth 100000 in
theorem lifted (os : Os) (started : os.Started) (H : Type) (enc : TypeId × Value → H) :
    ReturnsInHanded {} Try.checked os 6 .any (Rows.fnXyzToLinA98rgbIsUndoneByLinA98rgbToXyzSpec.pre6 enc Try.prog Try.f6 Rows.fnXyzToLinA98rgbIsUndoneByLinA98rgbToXyzRow.domain false) (Rows.fnXyzToLinA98rgbIsUndoneByLinA98rgbToXyzSpec.post enc Try.prog Try.f6 false true false false) := by
  refine returnsInHanded_of_change (C := Try.checked) own started (by kernel_rfl) Try.func6
    (ChangeSpec.witness6 (enc := enc) (C := Try.checked) false ⟨#[], #[.float .f64 0, .float .f64 0, .float .f64 0], []⟩ 8 (by kernel_rfl) (by kernel_rfl) (by kernel_rfl) (by kernel_rfl)) ?_
  intro W base args ds gs before hval0 hW hcnd _
  have hval : ∀ (j : Nat) t v, Try.f6.params[j]? = some t → args[j]? = some v → Value.okWide Try.prog W .any base t v := hval0
  have hW' := hW
  obtain ⟨p, q, hA0, hV, rfl, hfz, hnd⟩ := hW
  have hA : DataW.TrodAll enc Try.prog W 0 (fun _ => true) true Try.f6.params.toList args.toList ds p := hA0
  rw [Try.params6] at hA hval
  obtain ⟨v0, vs0, d0, ds0, p0, q0, hargs, rfl, rfl, h0, r0⟩ := trodAll_cons hA
  obtain ⟨v1, vs1, d1, ds1, p1, q1, rfl, rfl, rfl, h1, r1⟩ := trodAll_cons r0
  obtain ⟨v2, vs2, d2, ds2, p2, q2, rfl, rfl, rfl, h2, r2⟩ := trodAll_cons r1
  obtain ⟨rfl, rfl, rfl⟩ := trodAll_nil r2
  obtain rfl : args = #[v0, v1, v2] := by cases args; simp_all
  obtain ⟨rfl, rfl⟩ := trodVars_none hV
  obtain ⟨a0, rfl, rfl, rfl, w0⟩ := open_float Try.underlying22 (hval 0 22 v0 rfl rfl) h0
  obtain ⟨a1, rfl, rfl, rfl, w1⟩ := open_float Try.underlying22 (hval 1 22 v1 rfl rfl) h1
  obtain ⟨a2, rfl, rfl, rfl, w2⟩ := open_float Try.underlying22 (hval 2 22 v2 rfl rfl) h2
  clear hA0 hval0
  simp only [List.append_nil] at hW'
  refine (walk a0 a1 a2 w0 w1 w2 W).mono fun e W' ⟨he, bel⟩ => ?_
  subst he
  exact ⟨_, rfl, _, _, _, [], [], [], hW', trodAll_mk1 (shut_bool Try.underlying4 _), (trodAll_cons_mk (shut_float Try.underlying22 w0) (trodAll_cons_mk (shut_float Try.underlying22 w1) (trodAll_cons_mk (shut_float Try.underlying22 w2) trodAll_mk0))), rfl, bel.frame _, fun h => by cases h⟩

theorem over : Rows.fnXyzToLinA98rgbIsUndoneByLinA98rgbToXyzRow.holds Try.pinned (OpenSpec.ofChange Rows.fnXyzToLinA98rgbIsUndoneByLinA98rgbToXyzSpec) :=
  OpenClaim.holds_of_wide 6 Try.f6 rfl rfl rfl rfl rfl rfl rfl ⟨rfl, rfl, rfl, rfl, rfl⟩ rfl rfl rfl rfl rfl (by kernel_rfl) Try.func6 (by kernel_rfl)
    (of_decide_eq_true (by kernel_rfl)) (by unfold Func.isWrapper; first | (rw [if_pos (by decide +kernel)]; kernel_rfl) | (rw [if_neg (by decide +kernel)]; exact ⟨rfl, rfl⟩))
    (fun os started H enc _ => lifted os started H enc)

theorem proved : Rows.FnXyzToLinA98rgbIsUndoneByLinA98rgbToXyzSaid :=
  over
#print axioms proved
end Go.Proofs.Ytgflhgjigfpgiaa.fnXyzToLinA98rgbIsUndoneByLinA98rgbToXyz

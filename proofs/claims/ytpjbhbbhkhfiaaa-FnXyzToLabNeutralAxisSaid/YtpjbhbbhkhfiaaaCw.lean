/- The walk of math.Cbrt. -/
import Derived.Test.YtpjbhbbhkhfiaaaCu
import Derived.Test.YtpjbhbbhkhfiaaaRel
import Derived.Test.YtpjbhbbhkhfiaaaF64
import Derived.Lib.Hide
import Derived.Outline
import Derived.Laws.Bits64b
import Derived.Deep.DeepCutAuto
set_option linter.unusedSimpArgs false
set_option linter.unusedVariables false
namespace Go.Proofs.Ytpjbhbbhkhfiaaa
open Go.RowKit
open Flt Ieee
theorem neg_fl (x : Nat) (w : World) : (Op.unary .neg (.float .f64 x)).run Try.prog w = .ok (.float .f64 (negB x)) w := rfl
theorem run31 (x : Nat) (w : World) : (callFunc 31 #[.float .f64 x]).run Try.prog w = .ok (.value (.int .u64 x)) w := by
  rw [run_callFunc_extern (e := Extern.MathFloatBits.float64bits) Try.func31 (by kernel_rfl) (by kernel_rfl) (by kernel_rfl) (by kernel_rfl)]
  rfl
theorem run30 (x : Int) (w : World) : (callFunc 30 #[.int .u64 x]).run Try.prog w = .ok (.value (.float .f64 x.toNat)) w := by
  rw [run_callFunc_extern (e := Extern.MathFloatBits.float64frombits) Try.func30 (by kernel_rfl) (by kernel_rfl) (by kernel_rfl) (by kernel_rfl)]
  rfl
theorem and_high (c : Nat) (h : c < 2 ^ 64) : c &&& 18446744072635809792 = c - c % 2 ^ 30 := by
  have e : c - c % 2 ^ 30 = (c >>> 30) <<< 30 := by
    rw [Nat.shiftLeft_eq, Nat.shiftRight_eq_div_pow]
    have := Nat.div_add_mod c (2 ^ 30)
    omega
  have m : (18446744072635809792 : Nat) = (2 ^ 34 - 1) <<< 30 := by decide +kernel
  rw [e, m]
  apply Nat.eq_of_testBit_eq
  intro i
  rw [Nat.testBit_and, Nat.testBit_shiftLeft, Nat.testBit_shiftLeft, Nat.testBit_shiftRight, Nat.testBit_two_pow_sub_one]
  by_cases c1 : 30 ≤ i
  · simp only [c1, decide_true, Bool.true_and]
    rw [show 30 + (i - 30) = i by omega]
    by_cases c2 : i - 30 < 34
    · simp [c2]
    · have : c.testBit i = false := Nat.testBit_lt_two_pow (Nat.lt_of_lt_of_le h (Nat.pow_le_pow_right (by decide) (by omega)))
      simp [this]
  · simp [c1]
theorem and_chop (c : Nat) (h : c < 2 ^ 63) : bits .and .u64 (c : Int) 18446744072635809792 = ((c - c % 2 ^ 30 : Nat) : Int) := by
  have := bits_and_u64_nat c 18446744072635809792 (by omega) (by decide)
  rw [show ((18446744072635809792 : Nat) : Int) = 18446744072635809792 from rfl] at this
  rw [this, and_high c (by omega)]
theorem and_nosign (x : Nat) (h : x < 2 ^ 63) : bits .andNot .u64 (x : Int) 9223372036854775808 = (x : Int) := by
  have h1 : (BitVec.ofInt 64 (x : Int)).toNat = x := by
    rw [BitVec.ofInt_natCast, BitVec.toNat_ofNat]; exact Nat.mod_eq_of_lt (by omega)
  have h2 : (~~~ (BitVec.ofInt 64 9223372036854775808)).toNat = 2 ^ 63 - 1 := by decide +kernel
  show IntKind.u64.wrap ((BitVec.ofInt 64 (x : Int) &&& ~~~ (BitVec.ofInt 64 9223372036854775808)).toNat : Int) = _
  rw [BitVec.toNat_and, h1, h2, Nat.and_two_pow_sub_one_eq_mod, Nat.mod_eq_of_lt h, IntKind.wrap_u64]
  omega
set_option maxRecDepth 100000 in
set_option maxHeartbeats 2000000 in
theorem abs32_c (x : Nat) (w : World) (h : x < 2 ^ 63) : Calls Try.prog 32 #[.float .f64 x] w fun e w' => e = .returned (.float .f64 x) ∧ w = w' := by
  have k31 := run31; have k30 := run30
  have a1 := and_nosign x h
  clear h
  go_enter Try.func32, Try.ntmps32
  go_wp2
  go_ret
  exact ⟨by simp, rfl⟩
theorem big_gt {x : Nat} (h1 : 2 ^ 52 ≤ x) (h2 : x < 2047 * 2 ^ 52) : fin x ∧ 0 < val x ∧ gtB x 9218868437227405311 = false ∧ ltB x 4503599627370496 = false := by
  obtain ⟨t, k, hx, k1, k2, ht⟩ : ∃ t k, x = t * 2 ^ 52 + k ∧ 2 ^ 52 ≤ k ∧ k < 2 ^ 53 ∧ t ≤ 2045 := ⟨x / 2 ^ 52 - 1, 2 ^ 52 + x % 2 ^ 52, by omega, by omega, by omega, by omega⟩
  obtain ⟨f, v⟩ : fin x ∧ val x = (k : Rat) * two (-1074 + t) := by rw [hx]; exact val_norm t k k1 k2 ht
  have hp := two_pos (-1074 + (t : Int))
  have q1 : (4503599627370496 : Rat) ≤ (k : Rat) := by exact_mod_cast k1
  have q2 : (k : Rat) ≤ 9007199254740991 := by exact_mod_cast (show k ≤ 9007199254740991 by omega)
  have lo := Rat.mul_le_mul_of_nonneg_right q1 (Rat.le_of_lt hp)
  have hi := Rat.mul_le_mul_of_nonneg_right q2 (Rat.le_of_lt hp)
  have t1 := two_mono (show (-1074 : Int) ≤ -1074 + (t : Int) by omega)
  have t2 := two_mono (show (-1074 : Int) + (t : Int) ≤ 971 by omega)
  have c1 : fin 9218868437227405311 ∧ val 9218868437227405311 = 9007199254740991 * two 971 := ⟨fin_of (by decide +kernel), by unfold two; decide +kernel⟩
  have c2 : fin 4503599627370496 ∧ val 4503599627370496 = 4503599627370496 * two (-1074) := ⟨fin_of (by decide +kernel), by unfold two; decide +kernel⟩
  have m1 := Rat.mul_le_mul_of_nonneg_left t1 (show (0 : Rat) ≤ 4503599627370496 by decide +kernel)
  have m2 := Rat.mul_le_mul_of_nonneg_left t2 (show (0 : Rat) ≤ 9007199254740991 by decide +kernel)
  refine ⟨f, by rw [v]; exact Rat.mul_pos (by grind) hp, ?_, ?_⟩
  · cases e : gtB x 9218868437227405311
    · rfl
    · have := (gtB_iff f c1.1).1 e
      rw [c1.2, v] at this; grind
  · cases e : ltB x 4503599627370496
    · rfl
    · have := (ltB_iff f c2.1).1 e
      rw [c2.2, v] at this; grind
set_option maxRecDepth 100000 in
set_option maxHeartbeats 2000000 in
theorem inf29_c (x : Nat) (w : World) (h1 : 2 ^ 52 ≤ x) (h2 : x < 2047 * 2 ^ 52) : Calls Try.prog 29 #[.float .f64 x, .int .i64 0] w fun e w' => e = .returned (.bool false) ∧ w = w' := by
  have C := Lib.hid (fun w => abs32_c x w (by omega))
  have e1 : (FloatKind.f64.format.order x 9218868437227405311 == some .gt) = false := (big_gt h1 h2).2.2.1
  clear h1 h2
  go_enter Try.func29, Try.ntmps29
  go_wp2_with (go_at_call 32; (with_reducible refine (C.out _).mono ?_); rintro e w' ⟨rfl, rfl⟩)
  go_ret
  exact ⟨rfl, rfl⟩
set_option maxRecDepth 100000 in
set_option maxHeartbeats 2000000 in
theorem nan28_c (x : Nat) (w : World) (h : fin x) : Calls Try.prog 28 #[.float .f64 x] w fun e w' => e = .returned (.bool false) ∧ w = w' := by
  have e1 : (FloatKind.f64.format.order x x != some .eq) = false := by
    have : (FloatKind.f64.format.order x x == some .eq) = true := eqB_self h
    simp [bne, this]
  clear h
  go_enter Try.func28, Try.ntmps28
  go_wp2
  go_ret
  exact ⟨rfl, rfl⟩
set_option maxRecDepth 100000 in
set_option maxHeartbeats 2000000 in
theorem cbrt27_c (x y : Nat) (w : World) (h : CubP x y) : Calls Try.prog 27 #[.float .f64 x] w fun e w' => e = .returned (.float .f64 y) ∧ w = w' := by
  obtain ⟨p, r, m, s, a, d, b, q, g, c, s2, r2, w2, n, e, z, p2, HA, HB, hc, x1, x2, hc2⟩ := h
  obtain ⟨f, v, -, o2⟩ := big_gt x1 x2
  obtain ⟨t, ht⟩ : ∃ t, t = x / 3 + 3071306043645493248 := ⟨_, rfl⟩
  obtain ⟨t2, ht2⟩ : ∃ t2, t2 = c - c % 2 ^ 30 + 2 ^ 30 := ⟨_, rfl⟩
  rw [← ht] at HA
  rw [← ht2] at HB
  obtain ⟨A1, A2, A3, A4, A5, A6, A7, A8, A9, A10⟩ := HA
  obtain ⟨B1, B2, B3, B4, B5, B6, B7, B8⟩ := HB
  have ka0 := fun w => run_float_arith (P := Try.prog) w .mul 22 .f64 t t p A1
  have ka1 := fun w => run_float_arith (P := Try.prog) w .quo 22 .f64 p x r A2
  have ka2 := fun w => run_float_arith (P := Try.prog) w .mul 22 .f64 r t m A3
  have ka3 := fun w => run_float_arith (P := Try.prog) w .add 22 .f64 4603064841997850097 m s A4
  have ka4 := fun w => run_float_arith (P := Try.prog) w .add 22 .f64 s 4609048195788499471 a A5
  have ka5 := fun w => run_float_arith (P := Try.prog) w .quo 22 .f64 13827900089180538932 s d A6
  have ka6 := fun w => run_float_arith (P := Try.prog) w .add 22 .f64 a d b A7
  have ka7 := fun w => run_float_arith (P := Try.prog) w .quo 22 .f64 4609916747145206638 b q A8
  have ka8 := fun w => run_float_arith (P := Try.prog) w .add 22 .f64 4600105333671292343 q g A9
  have ka9 := fun w => run_float_arith (P := Try.prog) w .mul 22 .f64 t g c A10
  have kb0 := fun w => run_float_arith (P := Try.prog) w .mul 22 .f64 t2 t2 s2 B1
  have kb1 := fun w => run_float_arith (P := Try.prog) w .quo 22 .f64 x s2 r2 B2
  have kb2 := fun w => run_float_arith (P := Try.prog) w .add 22 .f64 t2 t2 w2 B3
  have kb3 := fun w => run_float_arith (P := Try.prog) w .sub 22 .f64 r2 t2 n B4
  have kb4 := fun w => run_float_arith (P := Try.prog) w .add 22 .f64 w2 r2 e B5
  have kb5 := fun w => run_float_arith (P := Try.prog) w .quo 22 .f64 n e z B6
  have kb6 := fun w => run_float_arith (P := Try.prog) w .mul 22 .f64 t2 z p2 B7
  have kb7 := fun w => run_float_arith (P := Try.prog) w .add 22 .f64 t2 p2 y B8
  clear A1 A2 A3 A4 A5 A6 A7 A8 A9 A10 B1 B2 B3 B4 B5 B6 B7 B8
  have k31 := run31; have k30 := run30
  have e0 : (FloatKind.f64.format.order x 0 == some .eq) = false := by
    have : eqB x 0 = false := by
      cases k : eqB x 0
      · rfl
      · have := (eqB_iff f zero_fin.1).1 k
        rw [zero_fin.2] at this; grind
    exact this
  have e1 : (FloatKind.f64.format.order x 0 == some .lt) = false := by
    have : ltB x 0 = false := by
      cases k : ltB x 0
      · rfl
      · have := (ltB_iff f zero_fin.1).1 k
        rw [zero_fin.2] at this; grind
    exact this
  have e2 : (FloatKind.f64.format.order x 4503599627370496 == some .lt) = false := o2
  have C28 := Lib.hid (fun w => nan28_c x w f)
  have C29 := Lib.hid (fun w => inf29_c x w x1 x2)
  have hx0 : (0 : Int) ≤ (x : Int) := by omega
  have ha := and_chop c hc
  obtain ⟨cc, hcc⟩ : ∃ cc : Nat, cc = c - c % 2 ^ 30 := ⟨_, rfl⟩
  rw [← hcc] at ha
  have n1 : ((x : Int) / 3 + 3071306043645493248).toNat = t := by omega
  have n2 : ((cc : Int) + 1073741824).toNat = t2 := by omega
  have b1 : (0 : Int) ≤ (x : Int) / 3 := by omega
  have b2 : (x : Int) / 3 ≤ 9223372036854775807 := by omega
  have b3 : (x : Int) ≤ 9223372036854775807 := by omega
  have b4 : (cc : Int) ≤ 9223372036854775807 - 1073741824 := by omega
  have b5 : (0 : Int) ≤ (cc : Int) := by omega
  clear o2 f v ht ht2 hc hc2 x1 x2 hcc
  go_enter Try.func27, Try.ntmps27
  go_wp2_with (first | (go_at_call 28; (with_reducible refine (C28.out _).mono ?_); rintro e w' ⟨rfl, rfl⟩) | (go_at_call 29; (with_reducible refine (C29.out _).mono ?_); rintro e w' ⟨rfl, rfl⟩))
  go_ret
  exact ⟨rfl, rfl⟩
set_option maxRecDepth 100000 in
set_option maxHeartbeats 2000000 in
theorem cbrt25_c (x y : Nat) (w : World) (h : CubP x y) : Calls Try.prog 25 #[.float .f64 x] w fun e w' => e = .returned (.float .f64 y) ∧ w = w' := by
  have C := Lib.hid (fun w => cbrt27_c x y w h)
  clear h
  go_enter Try.func25, Try.ntmps25
  go_wp2_with (go_at_call 27; (with_reducible refine (C.out _).mono ?_); rintro e w' ⟨rfl, rfl⟩)
  go_ret
  exact ⟨rfl, rfl⟩
set_option maxRecDepth 100000 in
set_option maxHeartbeats 2000000 in
theorem cbrt_c (x y : Nat) (w : World) (h : CubP x y) : Calls Try.prog 18 #[fl x] w fun e w' => e = .returned (fl y) ∧ Below w.heap.size w w' := by
  have st := st_fl
  have C := Lib.hid (fun w => cbrt25_c x y w h)
  clear h
  go_enter Try.func18, Try.ntmps18
  go_wp2_with (first | (go_at_call 25; (with_reducible refine (C.out _).mono ?_); rintro e w' ⟨rfl, rfl⟩) | (go_at_call 14; refine (new_c _ _).mono ?_; rintro e w' ⟨rfl, rfl⟩))
  refine bodyPost_ret (v := fl y) (by simp [results, Try.results18, go_sem]) rfl ⟨rfl, ?_⟩
  repeat (first | exact Below.refl _ _ | refine Below.alloc ?_ (by first | omega | (simp <;> omega)) _)
end Go.Proofs.Ytpjbhbbhkhfiaaa

/- FnRGBToHSLHexagonCornersAndGrey returns true at every int and every float64 (no condition). -/
import Derived.Test.YtanaamlkiackbaaG1
import Derived.Test.YtanaamlkiackbaaRp
import Derived.Outline
import Derived.ShutString
namespace Go.Proofs.Ytanaamlkiackbaa.fnRGBToHSLHexagonCornersAndGrey
open Go.ChangeShapes Go.WideShapes Go.ChangeAt Go.RowKit Go.Sort
open Go.ChangeMaps (open_string shut_string)
open Flt Ieee
set_option linter.unusedVariables false
set_option linter.unusedSimpArgs false
theorem b2 (x : Bool) : x = true ∨ x = false := by cases x <;> simp
theorem isnan_c (w : World) : Calls Try.prog 18 #[.float .f64 9221120237041090561] w fun e w' => e = .returned (.bool true) ∧ w = w' := by
  go_enter Try.func18, Try.ntmps18
  go_wp2
  go_ret
  exact ⟨rfl, rfl⟩
theorem out_i (i : Int) (v : Nat) (w : World) (h : i < 0 ∨ 6 < i) : Calls Try.prog 7 #[.int .i64 i, .float .f64 v] w fun e w' => e = .returned (.bool true) ∧ Below w.heap.size w w' := by
  rcases h with h | h
  · go_enter Try.func7, Try.ntmps7
    go_wp2_with fail
    go_ret
    exact ⟨rfl, Below.refl _ _⟩
  · have h0 : ¬ i < 0 := by omega
    go_enter Try.func7, Try.ntmps7
    go_wp2_with fail
    go_ret
    exact ⟨rfl, Below.refl _ _⟩
theorem out_v (i : Int) (v : Nat) (w : World) (h0 : 0 ≤ i) (h1 : i ≤ 6) (h : (geB v 118622047889322841 && leB v 4607182418800017408) = false) : Calls Try.prog 7 #[.int .i64 i, .float .f64 v] w fun e w' => e = .returned (.bool true) ∧ Below w.heap.size w w' := by
  rcases b2 (geB v 118622047889322841) with c | c
  · have e1 : (FloatKind.f64.format.order v 118622047889322841 == some .gt || FloatKind.f64.format.order v 118622047889322841 == some .eq) = true := c
    have e2 : (FloatKind.f64.format.order v 4607182418800017408 == some .lt || FloatKind.f64.format.order v 4607182418800017408 == some .eq) = false := by rw [c, Bool.true_and] at h; exact h
    clear c h
    go_enter Try.func7, Try.ntmps7
    go_wp2_with fail
    go_ret
    exact ⟨rfl, Below.refl _ _⟩
  · have e1 : (FloatKind.f64.format.order v 118622047889322841 == some .gt || FloatKind.f64.format.order v 118622047889322841 == some .eq) = false := c
    clear c h
    go_enter Try.func7, Try.ntmps7
    go_wp2_with fail
    go_ret
    exact ⟨rfl, Below.refl _ _⟩
theorem toV {v : Nat} (hw : (Lit.float .f64 v).wf = true) (h1 : geB v 118622047889322841 = true) (h2 : leB v 4607182418800017408 = true) : Rp.V v := by
  have f := fin_of_between Rp.klo.1 Rp.k1.1 h1 h2
  refine ⟨f, wf_lt hw, ?_, ?_⟩
  · have := (geB_iff f Rp.klo.1).1 h1; have := Rp.klo.2; grind
  · have := (leB_iff f Rp.k1.1).1 h2; rw [Rp.k1.2] at this; exact this
set_option maxRecDepth 100000 in
set_option maxHeartbeats 1000000 in
theorem law0 (v lt h1 l1 : Nat) (w : World) (c1 : geB v 118622047889322841 = true) (c2 : leB v 4607182418800017408 = true) (F1 : floatBits .quo .f64 v 4611686018427387904 = some lt) (F2 : floatBits .mul .f64 lt 4636737291354636288 = some l1) (f1 : fin l1) (he : eqB h1 0 = true)
    (Z : ∀ w : World, Calls Try.prog 25 #[fl v, fl 0, fl 0] w fun e w' => e = .returned (.tuple #[fl h1, fl 4636737291354636288, fl l1]) ∧ Below w.heap.size w w') : Calls Try.prog 7 #[.int .i64 0, .float .f64 v] w fun e w' => e = .returned (.bool true) ∧ Below w.heap.size w w' := by
  have e1 : (FloatKind.f64.format.order v 118622047889322841 == some .gt || FloatKind.f64.format.order v 118622047889322841 == some .eq) = true := c1
  have e2 : (FloatKind.f64.format.order v 4607182418800017408 == some .lt || FloatKind.f64.format.order v 4607182418800017408 == some .eq) = true := c2
  have e3 : (FloatKind.f64.format.order h1 0 == some .eq) = true := he
  have e4 : (FloatKind.f64.format.order 4636737291354636288 4636737291354636288 == some .eq) = true := eqB_self Rp.k100.1
  have e5 : (FloatKind.f64.format.order l1 l1 == some .eq) = true := eqB_self f1
  have k1 := fun w => run_float_arith (P := Try.prog) w .quo 22 .f64 _ _ _ F1
  have k2 := fun w => run_float_arith (P := Try.prog) w .mul 22 .f64 _ _ _ F2
  have ZZ := Lib.hid (zz_hsl v 0 0 h1 4636737291354636288 l1 w Z)
  clear c1 c2 F1 F2 f1 he Z
  go_enter Try.func7, Try.ntmps7
  go_wp2_with (go_at_call 17; (with_reducible refine ZZ.out.mono ?_); rintro e w' ⟨rfl, hb⟩)
  go_ret
  exact ⟨rfl, hb⟩
set_option maxRecDepth 100000 in
set_option maxHeartbeats 1000000 in
theorem law1 (v lt h1 l1 : Nat) (w : World) (c1 : geB v 118622047889322841 = true) (c2 : leB v 4607182418800017408 = true) (F1 : floatBits .quo .f64 v 4611686018427387904 = some lt) (F2 : floatBits .mul .f64 lt 4636737291354636288 = some l1) (f1 : fin l1) (he : eqB h1 4633641066610819072 = true)
    (Z : ∀ w : World, Calls Try.prog 25 #[fl v, fl v, fl 0] w fun e w' => e = .returned (.tuple #[fl h1, fl 4636737291354636288, fl l1]) ∧ Below w.heap.size w w') : Calls Try.prog 7 #[.int .i64 1, .float .f64 v] w fun e w' => e = .returned (.bool true) ∧ Below w.heap.size w w' := by
  have e1 : (FloatKind.f64.format.order v 118622047889322841 == some .gt || FloatKind.f64.format.order v 118622047889322841 == some .eq) = true := c1
  have e2 : (FloatKind.f64.format.order v 4607182418800017408 == some .lt || FloatKind.f64.format.order v 4607182418800017408 == some .eq) = true := c2
  have e3 : (FloatKind.f64.format.order h1 4633641066610819072 == some .eq) = true := he
  have e4 : (FloatKind.f64.format.order 4636737291354636288 4636737291354636288 == some .eq) = true := eqB_self Rp.k100.1
  have e5 : (FloatKind.f64.format.order l1 l1 == some .eq) = true := eqB_self f1
  have k1 := fun w => run_float_arith (P := Try.prog) w .quo 22 .f64 _ _ _ F1
  have k2 := fun w => run_float_arith (P := Try.prog) w .mul 22 .f64 _ _ _ F2
  have ZZ := Lib.hid (zz_hsl v v 0 h1 4636737291354636288 l1 w Z)
  clear c1 c2 F1 F2 f1 he Z
  go_enter Try.func7, Try.ntmps7
  go_wp2_with (go_at_call 17; (with_reducible refine ZZ.out.mono ?_); rintro e w' ⟨rfl, hb⟩)
  go_ret
  exact ⟨rfl, hb⟩
set_option maxRecDepth 100000 in
set_option maxHeartbeats 1000000 in
theorem law2 (v lt h1 l1 : Nat) (w : World) (c1 : geB v 118622047889322841 = true) (c2 : leB v 4607182418800017408 = true) (F1 : floatBits .quo .f64 v 4611686018427387904 = some lt) (F2 : floatBits .mul .f64 lt 4636737291354636288 = some l1) (f1 : fin l1) (he : eqB h1 4638144666238189568 = true)
    (Z : ∀ w : World, Calls Try.prog 25 #[fl 0, fl v, fl 0] w fun e w' => e = .returned (.tuple #[fl h1, fl 4636737291354636288, fl l1]) ∧ Below w.heap.size w w') : Calls Try.prog 7 #[.int .i64 2, .float .f64 v] w fun e w' => e = .returned (.bool true) ∧ Below w.heap.size w w' := by
  have e1 : (FloatKind.f64.format.order v 118622047889322841 == some .gt || FloatKind.f64.format.order v 118622047889322841 == some .eq) = true := c1
  have e2 : (FloatKind.f64.format.order v 4607182418800017408 == some .lt || FloatKind.f64.format.order v 4607182418800017408 == some .eq) = true := c2
  have e3 : (FloatKind.f64.format.order h1 4638144666238189568 == some .eq) = true := he
  have e4 : (FloatKind.f64.format.order 4636737291354636288 4636737291354636288 == some .eq) = true := eqB_self Rp.k100.1
  have e5 : (FloatKind.f64.format.order l1 l1 == some .eq) = true := eqB_self f1
  have k1 := fun w => run_float_arith (P := Try.prog) w .quo 22 .f64 _ _ _ F1
  have k2 := fun w => run_float_arith (P := Try.prog) w .mul 22 .f64 _ _ _ F2
  have ZZ := Lib.hid (zz_hsl 0 v 0 h1 4636737291354636288 l1 w Z)
  clear c1 c2 F1 F2 f1 he Z
  go_enter Try.func7, Try.ntmps7
  go_wp2_with (go_at_call 17; (with_reducible refine ZZ.out.mono ?_); rintro e w' ⟨rfl, hb⟩)
  go_ret
  exact ⟨rfl, hb⟩
set_option maxRecDepth 100000 in
set_option maxHeartbeats 1000000 in
theorem law3 (v lt h1 l1 : Nat) (w : World) (c1 : geB v 118622047889322841 = true) (c2 : leB v 4607182418800017408 = true) (F1 : floatBits .quo .f64 v 4611686018427387904 = some lt) (F2 : floatBits .mul .f64 lt 4636737291354636288 = some l1) (f1 : fin l1) (he : eqB h1 4640537203540230144 = true)
    (Z : ∀ w : World, Calls Try.prog 25 #[fl 0, fl v, fl v] w fun e w' => e = .returned (.tuple #[fl h1, fl 4636737291354636288, fl l1]) ∧ Below w.heap.size w w') : Calls Try.prog 7 #[.int .i64 3, .float .f64 v] w fun e w' => e = .returned (.bool true) ∧ Below w.heap.size w w' := by
  have e1 : (FloatKind.f64.format.order v 118622047889322841 == some .gt || FloatKind.f64.format.order v 118622047889322841 == some .eq) = true := c1
  have e2 : (FloatKind.f64.format.order v 4607182418800017408 == some .lt || FloatKind.f64.format.order v 4607182418800017408 == some .eq) = true := c2
  have e3 : (FloatKind.f64.format.order h1 4640537203540230144 == some .eq) = true := he
  have e4 : (FloatKind.f64.format.order 4636737291354636288 4636737291354636288 == some .eq) = true := eqB_self Rp.k100.1
  have e5 : (FloatKind.f64.format.order l1 l1 == some .eq) = true := eqB_self f1
  have k1 := fun w => run_float_arith (P := Try.prog) w .quo 22 .f64 _ _ _ F1
  have k2 := fun w => run_float_arith (P := Try.prog) w .mul 22 .f64 _ _ _ F2
  have ZZ := Lib.hid (zz_hsl 0 v v h1 4636737291354636288 l1 w Z)
  clear c1 c2 F1 F2 f1 he Z
  go_enter Try.func7, Try.ntmps7
  go_wp2_with (go_at_call 17; (with_reducible refine ZZ.out.mono ?_); rintro e w' ⟨rfl, hb⟩)
  go_ret
  exact ⟨rfl, hb⟩
set_option maxRecDepth 100000 in
set_option maxHeartbeats 1000000 in
theorem law4 (v lt h1 l1 : Nat) (w : World) (c1 : geB v 118622047889322841 = true) (c2 : leB v 4607182418800017408 = true) (F1 : floatBits .quo .f64 v 4611686018427387904 = some lt) (F2 : floatBits .mul .f64 lt 4636737291354636288 = some l1) (f1 : fin l1) (he : eqB h1 4642648265865560064 = true)
    (Z : ∀ w : World, Calls Try.prog 25 #[fl 0, fl 0, fl v] w fun e w' => e = .returned (.tuple #[fl h1, fl 4636737291354636288, fl l1]) ∧ Below w.heap.size w w') : Calls Try.prog 7 #[.int .i64 4, .float .f64 v] w fun e w' => e = .returned (.bool true) ∧ Below w.heap.size w w' := by
  have e1 : (FloatKind.f64.format.order v 118622047889322841 == some .gt || FloatKind.f64.format.order v 118622047889322841 == some .eq) = true := c1
  have e2 : (FloatKind.f64.format.order v 4607182418800017408 == some .lt || FloatKind.f64.format.order v 4607182418800017408 == some .eq) = true := c2
  have e3 : (FloatKind.f64.format.order h1 4642648265865560064 == some .eq) = true := he
  have e4 : (FloatKind.f64.format.order 4636737291354636288 4636737291354636288 == some .eq) = true := eqB_self Rp.k100.1
  have e5 : (FloatKind.f64.format.order l1 l1 == some .eq) = true := eqB_self f1
  have k1 := fun w => run_float_arith (P := Try.prog) w .quo 22 .f64 _ _ _ F1
  have k2 := fun w => run_float_arith (P := Try.prog) w .mul 22 .f64 _ _ _ F2
  have ZZ := Lib.hid (zz_hsl 0 0 v h1 4636737291354636288 l1 w Z)
  clear c1 c2 F1 F2 f1 he Z
  go_enter Try.func7, Try.ntmps7
  go_wp2_with (go_at_call 17; (with_reducible refine ZZ.out.mono ?_); rintro e w' ⟨rfl, hb⟩)
  go_ret
  exact ⟨rfl, hb⟩
set_option maxRecDepth 100000 in
set_option maxHeartbeats 1000000 in
theorem law5 (v lt h1 l1 : Nat) (w : World) (c1 : geB v 118622047889322841 = true) (c2 : leB v 4607182418800017408 = true) (F1 : floatBits .quo .f64 v 4611686018427387904 = some lt) (F2 : floatBits .mul .f64 lt 4636737291354636288 = some l1) (f1 : fin l1) (he : eqB h1 4643985272004935680 = true)
    (Z : ∀ w : World, Calls Try.prog 25 #[fl v, fl 0, fl v] w fun e w' => e = .returned (.tuple #[fl h1, fl 4636737291354636288, fl l1]) ∧ Below w.heap.size w w') : Calls Try.prog 7 #[.int .i64 5, .float .f64 v] w fun e w' => e = .returned (.bool true) ∧ Below w.heap.size w w' := by
  have e1 : (FloatKind.f64.format.order v 118622047889322841 == some .gt || FloatKind.f64.format.order v 118622047889322841 == some .eq) = true := c1
  have e2 : (FloatKind.f64.format.order v 4607182418800017408 == some .lt || FloatKind.f64.format.order v 4607182418800017408 == some .eq) = true := c2
  have e3 : (FloatKind.f64.format.order h1 4643985272004935680 == some .eq) = true := he
  have e4 : (FloatKind.f64.format.order 4636737291354636288 4636737291354636288 == some .eq) = true := eqB_self Rp.k100.1
  have e5 : (FloatKind.f64.format.order l1 l1 == some .eq) = true := eqB_self f1
  have k1 := fun w => run_float_arith (P := Try.prog) w .quo 22 .f64 _ _ _ F1
  have k2 := fun w => run_float_arith (P := Try.prog) w .mul 22 .f64 _ _ _ F2
  have ZZ := Lib.hid (zz_hsl v 0 v h1 4636737291354636288 l1 w Z)
  clear c1 c2 F1 F2 f1 he Z
  go_enter Try.func7, Try.ntmps7
  go_wp2_with (go_at_call 17; (with_reducible refine ZZ.out.mono ?_); rintro e w' ⟨rfl, hb⟩)
  go_ret
  exact ⟨rfl, hb⟩
set_option maxRecDepth 100000 in
set_option maxHeartbeats 1000000 in
theorem law6 (v l1 : Nat) (w : World) (c1 : geB v 118622047889322841 = true) (c2 : leB v 4607182418800017408 = true) (F2 : floatBits .mul .f64 v 4636737291354636288 = some l1) (f1 : fin l1)
    (Z : ∀ w : World, Calls Try.prog 25 #[fl v, fl v, fl v] w fun e w' => e = .returned (.tuple #[fl 9221120237041090561, fl 0, fl l1]) ∧ Below w.heap.size w w') : Calls Try.prog 7 #[.int .i64 6, .float .f64 v] w fun e w' => e = .returned (.bool true) ∧ Below w.heap.size w w' := by
  have e1 : (FloatKind.f64.format.order v 118622047889322841 == some .gt || FloatKind.f64.format.order v 118622047889322841 == some .eq) = true := c1
  have e2 : (FloatKind.f64.format.order v 4607182418800017408 == some .lt || FloatKind.f64.format.order v 4607182418800017408 == some .eq) = true := c2
  have e4 : (FloatKind.f64.format.order 0 0 == some .eq) = true := eqB_self Rp.k0.1
  have e5 : (FloatKind.f64.format.order l1 l1 == some .eq) = true := eqB_self f1
  have k2 := fun w => run_float_arith (P := Try.prog) w .mul 22 .f64 _ _ _ F2
  have ZZ := Lib.hid (zz_hsl v v v 9221120237041090561 0 l1 w Z)
  clear c1 c2 F2 f1 Z
  go_enter Try.func7, Try.ntmps7
  go_wp2_with (first | (go_at_call 17; (with_reducible refine ZZ.out.mono ?_); rintro e w' ⟨rfl, hb⟩) | (go_at_call 18; refine (isnan_c _).mono ?_; rintro e w2 ⟨rfl, rfl⟩))
  go_ret
  exact ⟨rfl, hb⟩
theorem ord_eq {x y : Nat} (fx : fin x) (fy : fin y) (h : val x = val y) : (FloatKind.f64.format.order x y == some .eq) = true := (eqB_iff fx fy).2 h
theorem ord_ne {x y : Nat} (fx : fin x) (fy : fin y) (h : val x ≠ val y) : (FloatKind.f64.format.order x y == some .eq) = false := by
  cases e : (FloatKind.f64.format.order x y == some .eq) with
  | false => rfl
  | true => exact absurd ((eqB_iff fx fy).1 e) h
theorem ord_neq {x y : Nat} (fx : fin x) (fy : fin y) (h : val x ≠ val y) : (FloatKind.f64.format.order x y != some .eq) = true := by rw [bne, ord_ne fx fy h]; rfl
theorem ord_nlt {x y : Nat} (fx : fin x) (fy : fin y) (h : val y ≤ val x) : (FloatKind.f64.format.order x y == some .lt) = false := by
  cases e : (FloatKind.f64.format.order x y == some .lt) with
  | false => rfl
  | true => have := (ltB_iff fx fy).1 e; grind
theorem ord_lt {x y : Nat} (fx : fin x) (fy : fin y) (h : val x < val y) : (FloatKind.f64.format.order x y == some .lt) = true := (ltB_iff fx fy).2 h
theorem cap (c : Rat) (h : -(2 ^ 100) ≤ c ∧ c ≤ 2 ^ 100) : Abs c (2 ^ 100) := h
theorem at0 (v : Nat) (w : World) (V : Rp.V v) (c1 : geB v 118622047889322841 = true) (c2 : leB v 4607182418800017408 = true) : Calls Try.prog 7 #[.int .i64 0, .float .f64 v] w fun e w' => e = .returned (.bool true) ∧ Below w.heap.size w w' := by
  obtain ⟨lt, a2, l1, F1, F2, F3, F4, hm, fl, pl, F6, F7, F8, f8⟩ := Rp.corner V
  have p := V.pos; have z := Rp.k0.2
  have mx : maxB (maxB v 0) 0 = v := by simp only [V.max_vv, V.max_v0, V.max_0v, Rp.max_00]
  have mn : minB (minB v 0) 0 = 0 := by simp only [V.min_vv, V.min_v0, V.min_0v, Rp.min_00]
  have nd : (FloatKind.f64.format.order v 0 != some .eq) = true := ord_neq V.f Rp.k0.1 (by grind)
  have nl : (FloatKind.f64.format.order (minB lt a2) 0 != some .eq) = true := by rw [hm]; exact ord_neq fl Rp.k0.1 (by grind)
  have S1 : floatBits .mul .f64 4607182418800017408 4636737291354636288 = some 4636737291354636288 := by decide +kernel
  have evv := ord_eq V.f V.f rfl
  have ev0 := ord_ne V.f Rp.k0.1 (by grind)
  have s00 : floatBits .sub .f64 0 0 = some 0 := sub_self' Rp.k0.1
  obtain ⟨y, Y, fy, ey⟩ := Rp.zero_over V
  obtain ⟨h1, H, he⟩ := Rp.times_60 fy ey Rp.k0 (by decide +kernel) (cap _ (by decide +kernel))
  have n := ord_nlt Rp.k0.1 Rp.k0.1 (Rat.le_refl)
  exact law0 v lt h1 l1 w c1 c2 F2 F8 f8 he (fun w => hsl_red v 0 0 v lt v a2 lt _ 0 y h1 _ l1 w (by rw [mx, mn]; exact F1) F2 (by rw [mx, mn]; exact F3) nd F4 nl (by rw [mx]; exact F6) (by rw [hm]; exact F7) (by rw [mx]; exact evv) s00 Y n H S1 F8)
theorem at1 (v : Nat) (w : World) (V : Rp.V v) (c1 : geB v 118622047889322841 = true) (c2 : leB v 4607182418800017408 = true) : Calls Try.prog 7 #[.int .i64 1, .float .f64 v] w fun e w' => e = .returned (.bool true) ∧ Below w.heap.size w w' := by
  obtain ⟨lt, a2, l1, F1, F2, F3, F4, hm, fl, pl, F6, F7, F8, f8⟩ := Rp.corner V
  have p := V.pos; have z := Rp.k0.2
  have mx : maxB (maxB v v) 0 = v := by simp only [V.max_vv, V.max_v0, V.max_0v, Rp.max_00]
  have mn : minB (minB v v) 0 = 0 := by simp only [V.min_vv, V.min_v0, V.min_0v, Rp.min_00]
  have nd : (FloatKind.f64.format.order v 0 != some .eq) = true := ord_neq V.f Rp.k0.1 (by grind)
  have nl : (FloatKind.f64.format.order (minB lt a2) 0 != some .eq) = true := by rw [hm]; exact ord_neq fl Rp.k0.1 (by grind)
  have S1 : floatBits .mul .f64 4607182418800017408 4636737291354636288 = some 4636737291354636288 := by decide +kernel
  have evv := ord_eq V.f V.f rfl
  have ev0 := ord_ne V.f Rp.k0.1 (by grind)
  have s00 : floatBits .sub .f64 0 0 = some 0 := sub_self' Rp.k0.1
  obtain ⟨y, Y, fy, ey⟩ := Rp.v_over V
  obtain ⟨h1, H, he⟩ := Rp.times_60 fy ey Rp.k60 (by decide +kernel) (cap _ (by decide +kernel))
  have n := ord_nlt V.f Rp.k0.1 (by grind)
  exact law1 v lt h1 l1 w c1 c2 F2 F8 f8 he (fun w => hsl_red v v 0 v lt v a2 lt _ v y h1 _ l1 w (by rw [mx, mn]; exact F1) F2 (by rw [mx, mn]; exact F3) nd F4 nl (by rw [mx]; exact F6) (by rw [hm]; exact F7) (by rw [mx]; exact evv) F3 Y n H S1 F8)
theorem at2 (v : Nat) (w : World) (V : Rp.V v) (c1 : geB v 118622047889322841 = true) (c2 : leB v 4607182418800017408 = true) : Calls Try.prog 7 #[.int .i64 2, .float .f64 v] w fun e w' => e = .returned (.bool true) ∧ Below w.heap.size w w' := by
  obtain ⟨lt, a2, l1, F1, F2, F3, F4, hm, fl, pl, F6, F7, F8, f8⟩ := Rp.corner V
  have p := V.pos; have z := Rp.k0.2
  have mx : maxB (maxB 0 v) 0 = v := by simp only [V.max_vv, V.max_v0, V.max_0v, Rp.max_00]
  have mn : minB (minB 0 v) 0 = 0 := by simp only [V.min_vv, V.min_v0, V.min_0v, Rp.min_00]
  have nd : (FloatKind.f64.format.order v 0 != some .eq) = true := ord_neq V.f Rp.k0.1 (by grind)
  have nl : (FloatKind.f64.format.order (minB lt a2) 0 != some .eq) = true := by rw [hm]; exact ord_neq fl Rp.k0.1 (by grind)
  have S1 : floatBits .mul .f64 4607182418800017408 4636737291354636288 = some 4636737291354636288 := by decide +kernel
  have evv := ord_eq V.f V.f rfl
  have ev0 := ord_ne V.f Rp.k0.1 (by grind)
  have s00 : floatBits .sub .f64 0 0 = some 0 := sub_self' Rp.k0.1
  obtain ⟨y, Y, fy, ey⟩ := Rp.zero_over V
  obtain ⟨h, A, fh, eh⟩ := Rp.plus_k fy ey Rp.k2 Rp.k2 (by decide +kernel) (cap _ (by decide +kernel))
  obtain ⟨h1, H, he⟩ := Rp.times_60 fh eh Rp.k120 (by decide +kernel) (cap _ (by decide +kernel))
  exact law2 v lt h1 l1 w c1 c2 F2 F8 f8 he (fun w => hsl_green 0 v 0 v lt v a2 lt _ 0 y h h1 _ l1 w (by rw [mx, mn]; exact F1) F2 (by rw [mx, mn]; exact F3) nd F4 nl (by rw [mx]; exact F6) (by rw [hm]; exact F7) (by rw [mx]; exact ev0) (by rw [mx]; exact evv) s00 Y A H S1 F8)
theorem at3 (v : Nat) (w : World) (V : Rp.V v) (c1 : geB v 118622047889322841 = true) (c2 : leB v 4607182418800017408 = true) : Calls Try.prog 7 #[.int .i64 3, .float .f64 v] w fun e w' => e = .returned (.bool true) ∧ Below w.heap.size w w' := by
  obtain ⟨lt, a2, l1, F1, F2, F3, F4, hm, fl, pl, F6, F7, F8, f8⟩ := Rp.corner V
  have p := V.pos; have z := Rp.k0.2
  have mx : maxB (maxB 0 v) v = v := by simp only [V.max_vv, V.max_v0, V.max_0v, Rp.max_00]
  have mn : minB (minB 0 v) v = 0 := by simp only [V.min_vv, V.min_v0, V.min_0v, Rp.min_00]
  have nd : (FloatKind.f64.format.order v 0 != some .eq) = true := ord_neq V.f Rp.k0.1 (by grind)
  have nl : (FloatKind.f64.format.order (minB lt a2) 0 != some .eq) = true := by rw [hm]; exact ord_neq fl Rp.k0.1 (by grind)
  have S1 : floatBits .mul .f64 4607182418800017408 4636737291354636288 = some 4636737291354636288 := by decide +kernel
  have evv := ord_eq V.f V.f rfl
  have ev0 := ord_ne V.f Rp.k0.1 (by grind)
  have s00 : floatBits .sub .f64 0 0 = some 0 := sub_self' Rp.k0.1
  obtain ⟨y, Y, fy, ey⟩ := Rp.v_over V
  obtain ⟨h, A, fh, eh⟩ := Rp.plus_k fy ey Rp.k2 Rp.k3 (by decide +kernel) (cap _ (by decide +kernel))
  obtain ⟨h1, H, he⟩ := Rp.times_60 fh eh Rp.k180 (by decide +kernel) (cap _ (by decide +kernel))
  exact law3 v lt h1 l1 w c1 c2 F2 F8 f8 he (fun w => hsl_green 0 v v v lt v a2 lt _ v y h h1 _ l1 w (by rw [mx, mn]; exact F1) F2 (by rw [mx, mn]; exact F3) nd F4 nl (by rw [mx]; exact F6) (by rw [hm]; exact F7) (by rw [mx]; exact ev0) (by rw [mx]; exact evv) F3 Y A H S1 F8)
theorem at4 (v : Nat) (w : World) (V : Rp.V v) (c1 : geB v 118622047889322841 = true) (c2 : leB v 4607182418800017408 = true) : Calls Try.prog 7 #[.int .i64 4, .float .f64 v] w fun e w' => e = .returned (.bool true) ∧ Below w.heap.size w w' := by
  obtain ⟨lt, a2, l1, F1, F2, F3, F4, hm, fl, pl, F6, F7, F8, f8⟩ := Rp.corner V
  have p := V.pos; have z := Rp.k0.2
  have mx : maxB (maxB 0 0) v = v := by simp only [V.max_vv, V.max_v0, V.max_0v, Rp.max_00]
  have mn : minB (minB 0 0) v = 0 := by simp only [V.min_vv, V.min_v0, V.min_0v, Rp.min_00]
  have nd : (FloatKind.f64.format.order v 0 != some .eq) = true := ord_neq V.f Rp.k0.1 (by grind)
  have nl : (FloatKind.f64.format.order (minB lt a2) 0 != some .eq) = true := by rw [hm]; exact ord_neq fl Rp.k0.1 (by grind)
  have S1 : floatBits .mul .f64 4607182418800017408 4636737291354636288 = some 4636737291354636288 := by decide +kernel
  have evv := ord_eq V.f V.f rfl
  have ev0 := ord_ne V.f Rp.k0.1 (by grind)
  have s00 : floatBits .sub .f64 0 0 = some 0 := sub_self' Rp.k0.1
  obtain ⟨y, Y, fy, ey⟩ := Rp.zero_over V
  obtain ⟨h, A, fh, eh⟩ := Rp.plus_k fy ey Rp.k4 Rp.k4 (by decide +kernel) (cap _ (by decide +kernel))
  obtain ⟨h1, H, he⟩ := Rp.times_60 fh eh Rp.k240 (by decide +kernel) (cap _ (by decide +kernel))
  exact law4 v lt h1 l1 w c1 c2 F2 F8 f8 he (fun w => hsl_blue 0 0 v v lt v a2 lt _ 0 y h h1 _ l1 w (by rw [mx, mn]; exact F1) F2 (by rw [mx, mn]; exact F3) nd F4 nl (by rw [mx]; exact F6) (by rw [hm]; exact F7) (by rw [mx]; exact ev0) (by rw [mx]; exact ev0) (by rw [mx]; exact evv) s00 Y A H S1 F8)
theorem at5 (v : Nat) (w : World) (V : Rp.V v) (c1 : geB v 118622047889322841 = true) (c2 : leB v 4607182418800017408 = true) : Calls Try.prog 7 #[.int .i64 5, .float .f64 v] w fun e w' => e = .returned (.bool true) ∧ Below w.heap.size w w' := by
  obtain ⟨lt, a2, l1, F1, F2, F3, F4, hm, fl, pl, F6, F7, F8, f8⟩ := Rp.corner V
  have p := V.pos; have z := Rp.k0.2
  have mx : maxB (maxB v 0) v = v := by simp only [V.max_vv, V.max_v0, V.max_0v, Rp.max_00]
  have mn : minB (minB v 0) v = 0 := by simp only [V.min_vv, V.min_v0, V.min_0v, Rp.min_00]
  have nd : (FloatKind.f64.format.order v 0 != some .eq) = true := ord_neq V.f Rp.k0.1 (by grind)
  have nl : (FloatKind.f64.format.order (minB lt a2) 0 != some .eq) = true := by rw [hm]; exact ord_neq fl Rp.k0.1 (by grind)
  have S1 : floatBits .mul .f64 4607182418800017408 4636737291354636288 = some 4636737291354636288 := by decide +kernel
  have evv := ord_eq V.f V.f rfl
  have ev0 := ord_ne V.f Rp.k0.1 (by grind)
  have s00 : floatBits .sub .f64 0 0 = some 0 := sub_self' Rp.k0.1
  obtain ⟨x, y, X, Y, fy, ey⟩ := Rp.minus_over V
  obtain ⟨h, A, fh, eh⟩ := Rp.plus_k fy ey Rp.k6 Rp.k5 (by decide +kernel) (cap _ (by decide +kernel))
  obtain ⟨h1, H, he⟩ := Rp.times_60 fh eh Rp.k300 (by decide +kernel) (cap _ (by decide +kernel))
  have n := ord_lt Rp.k0.1 V.f (by grind)
  exact law5 v lt h1 l1 w c1 c2 F2 F8 f8 he (fun w => hsl_redlt v 0 v v lt v a2 lt _ x y h h1 _ l1 w (by rw [mx, mn]; exact F1) F2 (by rw [mx, mn]; exact F3) nd F4 nl (by rw [mx]; exact F6) (by rw [hm]; exact F7) (by rw [mx]; exact evv) X Y n A H S1 F8)
theorem at6 (v : Nat) (w : World) (V : Rp.V v) (c1 : geB v 118622047889322841 = true) (c2 : leB v 4607182418800017408 = true) : Calls Try.prog 7 #[.int .i64 6, .float .f64 v] w fun e w' => e = .returned (.bool true) ∧ Below w.heap.size w w' := by
  obtain ⟨sm, l1, F1, F2, F8, f8⟩ := Rp.greyp V
  have mx : maxB (maxB v v) v = v := by simp only [V.max_vv]
  have mn : minB (minB v v) v = v := by simp only [V.min_vv]
  have S1 : floatBits .mul .f64 0 4636737291354636288 = some 0 := by decide +kernel
  have nd : (FloatKind.f64.format.order 0 0 != some .eq) = false := by decide +kernel
  exact law6 v l1 w c1 c2 F8 f8 (fun w => hsl_grey v v v sm v 0 0 l1 w (by rw [mx, mn]; exact F1) F2 (by rw [mx, mn]; exact sub_self' V.f) nd S1 F8)
theorem walk (a0 : Int) (a1 : Nat) (w0 : (Lit.int .i64 a0).wf = true) (w1 : (Lit.float .f64 a1).wf = true) (w : World) :
    Calls Try.prog 7 #[.int .i64 a0, .float .f64 a1] w fun e w' => e = .returned (.bool true) ∧ Below w.heap.size w w' := by
  by_cases hi : a0 < 0 ∨ 6 < a0
  · exact out_i a0 a1 w hi
  · cases hv : (geB a1 118622047889322841 && leB a1 4607182418800017408) with
    | false => exact out_v a0 a1 w (by omega) (by omega) hv
    | true =>
      rw [Bool.and_eq_true] at hv
      have V := toV w1 hv.1 hv.2
      have : a0 = 0 ∨ a0 = 1 ∨ a0 = 2 ∨ a0 = 3 ∨ a0 = 4 ∨ a0 = 5 ∨ a0 = 6 := by omega
      rcases this with rfl | rfl | rfl | rfl | rfl | rfl | rfl
      · exact at0 a1 w V hv.1 hv.2
      · exact at1 a1 w V hv.1 hv.2
      · exact at2 a1 w V hv.1 hv.2
      · exact at3 a1 w V hv.1 hv.2
      · exact at4 a1 w V hv.1 hv.2
      · exact at5 a1 w V hv.1 hv.2
      · exact at6 a1 w V hv.1 hv.2
-- theorem walk (a0 : Int) (a1 : Nat) (w0 : (Lit.int .i64 a0).wf = true) (w1 : (Lit.float .f64 a1).wf = true) (w : World) :
--    Calls Try.prog 7 #[.int .i64 a0, .float .f64 a1] w fun e w' => e = .returned (.bool true) ∧ Below w.heap.size w w'
theorem own : ownKnob Try.prog.godebug = none := by kernel_rfl
set_option maxRecDepth 100000 in
theorem lifted (os : Os) (started : os.Started) (H : Type) (enc : TypeId × Value → H) :
    ReturnsInHanded {} Try.checked os 7 .any (Rows.fnRGBToHSLHexagonCornersAndGreySpec.pre6 enc Try.prog Try.f7 Rows.fnRGBToHSLHexagonCornersAndGreyRow.domain false) (Rows.fnRGBToHSLHexagonCornersAndGreySpec.post enc Try.prog Try.f7 false true false false) := by
  refine returnsInHanded_of_change (C := Try.checked) own started (by kernel_rfl) Try.func7
    (ChangeSpec.witness6 (enc := enc) (C := Try.checked) false ⟨#[], #[.int .i64 0, .float .f64 0], []⟩ 8 (by kernel_rfl) (by kernel_rfl) (by kernel_rfl) (by kernel_rfl)) ?_
  intro W base args ds gs before hval0 hW hcnd _
  have hval : ∀ (j : Nat) t v, Try.f7.params[j]? = some t → args[j]? = some v → Value.okWide Try.prog W .any base t v := hval0
  have hW' := hW
  obtain ⟨p, q, hA0, hV, rfl, hfz, hnd⟩ := hW
  have hA : DataW.TrodAll enc Try.prog W 0 (fun _ => true) true Try.f7.params.toList args.toList ds p := hA0
  rw [Try.params7] at hA hval
  obtain ⟨v0, vs0, d0, ds0, p0, q0, hargs, rfl, rfl, h0, r0⟩ := trodAll_cons hA
  obtain ⟨v1, vs1, d1, ds1, p1, q1, rfl, rfl, rfl, h1, r1⟩ := trodAll_cons r0
  obtain ⟨rfl, rfl, rfl⟩ := trodAll_nil r1
  obtain rfl : args = #[v0, v1] := by cases args; simp_all
  obtain ⟨rfl, rfl⟩ := trodVars_none hV
  obtain ⟨a0, rfl, rfl, rfl, w0⟩ := open_int Try.underlying3 (hval 0 3 v0 rfl rfl) h0
  obtain ⟨a1, rfl, rfl, rfl, w1⟩ := open_float Try.underlying22 (hval 1 22 v1 rfl rfl) h1
  clear hA0 hval0
  simp only [List.append_nil] at hW'
  refine (walk a0 a1 w0 w1 W).mono fun e W' ⟨he, bel⟩ => ?_
  subst he
  exact ⟨_, rfl, _, _, _, [], [], [], hW', trodAll_mk1 (shut_bool Try.underlying4 _), (trodAll_cons_mk (shut_int Try.underlying3 w0) (trodAll_cons_mk (shut_float Try.underlying22 w1) trodAll_mk0)), rfl, bel.frame _, fun h => by cases h⟩

theorem over : Rows.fnRGBToHSLHexagonCornersAndGreyRow.holds Try.pinned (OpenSpec.ofChange Rows.fnRGBToHSLHexagonCornersAndGreySpec) :=
  OpenClaim.holds_of_wide 7 Try.f7 rfl rfl rfl rfl rfl rfl rfl ⟨rfl, rfl, rfl, rfl, rfl⟩ rfl rfl rfl rfl rfl (by kernel_rfl) Try.func7 (by kernel_rfl)
    (of_decide_eq_true (by kernel_rfl)) (by unfold Func.isWrapper; first | (rw [if_pos (by decide +kernel)]; kernel_rfl) | (rw [if_neg (by decide +kernel)]; exact ⟨rfl, rfl⟩))
    (fun os started H enc _ => lifted os started H enc)

theorem proved : Rows.FnRGBToHSLHexagonCornersAndGreySaid :=
  over
#print axioms proved
end Go.Proofs.Ytanaamlkiackbaa.fnRGBToHSLHexagonCornersAndGrey

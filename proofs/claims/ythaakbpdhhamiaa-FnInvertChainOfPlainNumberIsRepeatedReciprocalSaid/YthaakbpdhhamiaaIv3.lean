/- Proved: for every float64 x and every int k the law FnInvertChainOfPlainNumberIsRepeatedReciprocal returns true, and its arguments read afterwards as before. No condition. -/
import Derived.Test.YthaakbpdhhamiaaIv2
import Derived.ShutString
namespace Go.Proofs.Ythaakbpdhhamiaa.fnInvertChainOfPlainNumberIsRepeatedReciprocal
open Go.ChangeShapes Go.WideShapes Go.ChangeAt Go.RowKit Go.Sort
open Go.ChangeMaps (open_string shut_string)
open Flt
set_option linter.unusedVariables false
set_option linter.unusedSimpArgs false
theorem nan_quo {z : Nat} (h : isNan z) : floatBits .quo .f64 ONE z = none := by
  obtain ⟨s, f, h⟩ := h
  have e : F.read ONE = .number false 4503599627370496 (-52) := by decide +kernel
  have q : (F.read ONE).quotient 54 (F.read z) = none := by rw [h, e]; rfl
  show ((F.read ONE).quotient 54 (F.read z)).map F.write = none
  rw [q]; rfl
theorem rc_det {x y z : Nat} (h1 : Rc x y) (h2 : Rc x z) : y = z ∨ (isNan y ∧ isNan z) := by
  rcases h1 with h1 | ⟨h1, n1⟩ <;> rcases h2 with h2 | ⟨h2, n2⟩
  · rw [h1] at h2; injection h2 with e; exact .inl e
  · rw [h1] at h2; cases h2
  · rw [h1] at h2; cases h2
  · exact .inr ⟨n1, n2⟩
theorem rc_nan {x y : Nat} (h : isNan x) (h1 : Rc x y) : isNan y := by
  rcases h1 with h1 | ⟨h1, n1⟩
  · rw [nan_quo h] at h1; cases h1
  · exact n1
theorem it_det (x : Nat) : ∀ (k y z : Nat), It k x y → It k x z → y = z ∨ (isNan y ∧ isNan z)
  | 0, y, z, h1, h2 => .inl (h1.trans h2.symm)
  | k + 1, y, z, ⟨a, ha, h1⟩, ⟨b, hb, h2⟩ => by
    rcases it_det x k a b ha hb with e | ⟨n1, n2⟩
    · subst e; exact rc_det h1 h2
    · exact .inr ⟨rc_nan n1 h1, rc_nan n2 h2⟩
theorem ret_bool {a b : Bool} (h : a = b) : Ending.returned (.bool a) = .returned (.bool b) := by rw [h]
theorem neq_nan {x : Nat} (h : isNan x) : (FloatKind.f64.format.order x x != some .eq) = true := by
  have : F.order x x = none := nan_order h
  show (F.order x x != some .eq) = true
  rw [this]; rfl
set_option maxRecDepth 100000 in
set_option maxHeartbeats 2000000 in
theorem same_nan (a b : Nat) (w : World) (h1 : isNan a) (h2 : isNan b) : Calls Try.prog 5 #[.float .f64 a, .float .f64 b] w fun e w' => e = .returned (.bool true) ∧ Below w.heap.size w w' := by
  have e1 := neq_nan h1
  have e2 := neq_nan h2
  clear h1 h2
  go_enter Try.func5, Try.ntmps5
  go_wp2
  go_ret
  exact ⟨rfl, Below.refl _ _⟩
theorem zero_quo {a : Nat} (h : (FloatKind.f64.format.order a 0 == some .eq) = true) : ∃ r, floatBits .quo .f64 ONE a = some r := by
  have hf : fin a := by
    by_cases f : fin a
    · exact f
    · exfalso
      have hh : (F.order a 0 == some .eq) = true := h
      unfold fin at f
      have z : F.read 0 = .number false 0 (-1074) := by decide +kernel
      unfold Ieee.Format.order at hh
      rw [z] at hh
      cases hr : F.read a with
      | number s m p => rw [hr] at f; exact f trivial
      | nan s t => rw [hr] at hh; exact absurd (show (false = true) from hh) (by decide)
      | infinity s => rw [hr] at hh; cases s <;> exact absurd hh (by decide)
  have hv := (eqB_iff hf zero_fin.1).1 h
  rw [zero_fin.2] at hv
  obtain ⟨s, m, p, hr, _⟩ := fin_num hf
  have hm : m = 0 := by
    unfold val at hv
    rw [hr] at hv
    have hv : sg s * (m : Rat) * two p = 0 := hv
    have hp := two_pos p
    rcases Rat.mul_eq_zero.1 hv with q | q
    · rcases Rat.mul_eq_zero.1 q with q | q
      · have : sg s ≠ 0 := by cases s <;> (unfold sg; decide +kernel)
        exact absurd q this
      · exact_mod_cast q
    · grind
  subst hm
  have e : F.read ONE = .number false 4503599627370496 (-52) := by decide +kernel
  have q : (F.read ONE).quotient 54 (F.read a) = some (.infinity (false ^^ s)) := by rw [hr, e]; rfl
  refine ⟨F.write (.infinity (false ^^ s)), ?_⟩
  show ((F.read ONE).quotient 54 (F.read a)).map F.write = _
  rw [q]; rfl
theorem order_self (a : Nat) : isNan a ∨ (FloatKind.f64.format.order a a == some .eq) = true := by
  by_cases f : fin a
  · exact .inr (eqB_self f)
  · by_cases n : isNan a
    · exact .inl n
    · right
      show (F.order a a == some .eq) = true
      unfold fin at f
      unfold isNan at n
      unfold Ieee.Format.order
      cases hr : F.read a with
      | number s m p => rw [hr] at f; exact absurd trivial f
      | nan s t => exact absurd ⟨s, t, hr⟩ n
      | infinity s => cases s <;> rfl
set_option maxRecDepth 100000 in
set_option maxHeartbeats 2000000 in
theorem same_self (a : Nat) (w : World) : Calls Try.prog 5 #[.float .f64 a, .float .f64 a] w fun e w' => e = .returned (.bool true) ∧ Below w.heap.size w w' := by
  rcases order_self a with h | h
  · exact same_nan a a w h h
  · have e1 : (FloatKind.f64.format.order a a != some .eq) = false := by simp only [bne, h]; rfl
    obtain ⟨g, ⟨d, hrun⟩, hg⟩ := rc_run a
    cases hz : (FloatKind.f64.format.order a 0 == some .eq) with
    | false =>
      clear h hg hrun
      go_enter Try.func5, Try.ntmps5
      go_wp2
      go_ret
      exact ⟨rfl, Below.refl _ _⟩
    | true =>
      obtain ⟨r, hr⟩ := zero_quo hz
      have k := fun w => run_float_arith (P := Try.prog) w .quo 22 .f64 ONE a r hr
      clear h hg hrun hr
      cases hb : (FloatKind.f64.format.order r 0 == some .gt)
      all_goals
        go_enter Try.func5, Try.ntmps5
        go_wp2
        go_ret
        exact ⟨rfl, Below.refl _ _⟩
set_option maxRecDepth 100000 in
set_option maxHeartbeats 2000000 in
theorem law_no (x : Nat) (k : Int) (w : World) (h : k < 0 ∨ 65536 < k) (h1 : -9223372036854775808 ≤ k) (h2 : k ≤ 9223372036854775807) : Calls Try.prog 3 #[.float .f64 x, .int .i64 k] w fun e w' => e = .returned (.bool true) ∧ Below w.heap.size w w' := by
  rcases h with h | h
  all_goals
    go_enter Try.func3, Try.ntmps3
    go_wp2
    go_ret
    exact ⟨rfl, Below.refl _ _⟩
theorem same_it {x k y z : Nat} (h1 : It k x y) (h2 : It k x z) (w : World) : Calls Try.prog 5 #[.float .f64 y, .float .f64 z] w fun e w' => e = .returned (.bool true) ∧ Below w.heap.size w w' := by
  rcases it_det x k y z h1 h2 with e | ⟨n1, n2⟩
  · subst e; exact same_self y w
  · exact same_nan y z w n1 n2
set_option maxRecDepth 100000 in
set_option maxHeartbeats 2000000 in
theorem law_yes (x k : Nat) (w : World) (hk : k ≤ 65536) : Calls Try.prog 3 #[.float .f64 x, .int .i64 k] w fun e w' => e = .returned (.bool true) ∧ Below w.heap.size w w' := by
  have C := Lib.hid (chain_c x k w hk)
  go_enter Try.func3, Try.ntmps3
  go_upto_region 6 with (go_at_call 4; (with_reducible refine C.out.mono ?_); rintro e u ⟨y, hy, rfl, hb⟩; replace hy := Lib.hid hy; replace hb := Lib.hid hb)
  clear C
  go_loopw [11, 12] (fun v i wr => ∃ (j z : Nat), j ≤ k ∧ i = .int .i64 j ∧ v = .float .f64 z ∧ Hid (It j x z) ∧ Hid (Below w.heap.size w wr)) (fun _ i _ => k - (intOf i).toNat)
  case atStart => exact ⟨0, x, by omega, rfl, rfl, Lib.hid rfl, hb⟩
  case round =>
    obtain ⟨j, z, hj, rfl, rfl, hz, hB⟩ := hrel
    clear hb
    by_cases hlt : j < k
    · obtain ⟨g, ⟨d, hrun⟩, hg⟩ := rc_run z
      have HG := Lib.hid hg
      clear hg
      cases d
      all_goals
        simp only [if_true, Bool.false_eq_true, if_false] at hrun
        go_wp2
        go_roundw
        case rel => exact ⟨j + 1, g wr, by omega, by go_num, rfl, Lib.hid ⟨z, hz.out, HG.out wr⟩, Lib.hid (by first | exact hB.out | exact hB.out.drew)⟩
        case measure => simp [intOf]; omega
    · obtain rfl : j = k := by omega
      have S := Lib.hid (fun w => same_it hy.out hz.out w)
      clear hlt
      go_wp2_with (go_at_call 5; (with_reducible refine (S.out _).mono ?_); rintro e u2 ⟨rfl, hb2⟩)
      go_ret
      exact ⟨rfl, hB.out.trans (hb2.mono hB.out.size)⟩
theorem walk (a0 : Nat) (a1 : Int) (w0 : (Lit.float .f64 a0).wf = true) (w1 : (Lit.int .i64 a1).wf = true) (w : World) :
    Calls Try.prog 3 #[.float .f64 a0, .int .i64 a1] w fun e w' => e = .returned (.bool true) ∧ Below w.heap.size w w' := by
  have hr : -9223372036854775808 ≤ a1 ∧ a1 ≤ 9223372036854775807 := by
    have e1 : IntKind.i64.min = -9223372036854775808 := rfl
    have e2 : IntKind.i64.max = 9223372036854775807 := rfl
    simp [Lit.wf, e1, e2] at w1
    omega
  by_cases h : a1 < 0 ∨ 65536 < a1
  · exact law_no a0 a1 w h hr.1 hr.2
  · obtain ⟨k, rfl⟩ : ∃ k : Nat, a1 = k := ⟨a1.toNat, by omega⟩
    exact law_yes a0 k w (by omega)
-- theorem walk (a0 : Nat) (a1 : Int) (w0 : (Lit.float .f64 a0).wf = true) (w1 : (Lit.int .i64 a1).wf = true) (w : World) :
--    Calls Try.prog 3 #[.float .f64 a0, .int .i64 a1] w fun e w' => e = .returned (.bool true) ∧ Below w.heap.size w w'
theorem own : ownKnob Try.prog.godebug = none := by kernel_rfl
set_option maxRecDepth 100000 in
theorem lifted (os : Os) (started : os.Started) (H : Type) (enc : TypeId × Value → H) :
    ReturnsInHanded {} Try.checked os 3 .any (Rows.fnInvertChainOfPlainNumberIsRepeatedReciprocalSpec.pre6 enc Try.prog Try.f3 Rows.fnInvertChainOfPlainNumberIsRepeatedReciprocalRow.domain false) (Rows.fnInvertChainOfPlainNumberIsRepeatedReciprocalSpec.post enc Try.prog Try.f3 false true false false) := by
  refine returnsInHanded_of_change (C := Try.checked) own started (by kernel_rfl) Try.func3
    (ChangeSpec.witness6 (enc := enc) (C := Try.checked) false ⟨#[], #[.float .f64 0, .int .i64 0], []⟩ 8 (by kernel_rfl) (by kernel_rfl) (by kernel_rfl) (by kernel_rfl)) ?_
  intro W base args ds gs before hval0 hW hcnd _
  have hval : ∀ (j : Nat) t v, Try.f3.params[j]? = some t → args[j]? = some v → Value.okWide Try.prog W .any base t v := hval0
  have hW' := hW
  obtain ⟨p, q, hA0, hV, rfl, hfz, hnd⟩ := hW
  have hA : DataW.TrodAll enc Try.prog W 0 (fun _ => true) true Try.f3.params.toList args.toList ds p := hA0
  rw [Try.params3] at hA hval
  obtain ⟨v0, vs0, d0, ds0, p0, q0, hargs, rfl, rfl, h0, r0⟩ := trodAll_cons hA
  obtain ⟨v1, vs1, d1, ds1, p1, q1, rfl, rfl, rfl, h1, r1⟩ := trodAll_cons r0
  obtain ⟨rfl, rfl, rfl⟩ := trodAll_nil r1
  obtain rfl : args = #[v0, v1] := by cases args; simp_all
  obtain ⟨rfl, rfl⟩ := trodVars_none hV
  obtain ⟨a0, rfl, rfl, rfl, w0⟩ := open_float Try.underlying22 (hval 0 22 v0 rfl rfl) h0
  obtain ⟨a1, rfl, rfl, rfl, w1⟩ := open_int Try.underlying3 (hval 1 3 v1 rfl rfl) h1
  clear hA0 hval0
  simp only [List.append_nil] at hW'
  refine (walk a0 a1 w0 w1 W).mono fun e W' ⟨he, bel⟩ => ?_
  subst he
  exact ⟨_, rfl, _, _, _, [], [], [], hW', trodAll_mk1 (shut_bool Try.underlying4 _), (trodAll_cons_mk (shut_float Try.underlying22 w0) (trodAll_cons_mk (shut_int Try.underlying3 w1) trodAll_mk0)), rfl, bel.frame _, fun h => by cases h⟩

theorem over : Rows.fnInvertChainOfPlainNumberIsRepeatedReciprocalRow.holds Try.pinned (OpenSpec.ofChange Rows.fnInvertChainOfPlainNumberIsRepeatedReciprocalSpec) :=
  OpenClaim.holds_of_wide 3 Try.f3 rfl rfl rfl rfl rfl rfl rfl ⟨rfl, rfl, rfl, rfl, rfl⟩ rfl rfl rfl rfl rfl (by kernel_rfl) Try.func3 (by kernel_rfl)
    (of_decide_eq_true (by kernel_rfl)) (by unfold Func.isWrapper; first | (rw [if_pos (by decide +kernel)]; kernel_rfl) | (rw [if_neg (by decide +kernel)]; exact ⟨rfl, rfl⟩))
    (fun os started H enc _ => lifted os started H enc)

theorem proved : Rows.FnInvertChainOfPlainNumberIsRepeatedReciprocalSaid :=
  over
#print axioms proved
end Go.Proofs.Ythaakbpdhhamiaa.fnInvertChainOfPlainNumberIsRepeatedReciprocal

/- Proved: for every float64 s the law FnXyzToLabNeutralAxis returns true, and its argument reads afterwards as before. No condition. -/
import Derived.Test.YtpjbhbbhkhfiaaaLbl
import Derived.ShutString
namespace Go.Proofs.Ytpjbhbbhkhfiaaa.fnXyzToLabNeutralAxis
open Go.ChangeShapes Go.WideShapes Go.ChangeAt Go.RowKit Go.Sort
open Go.ChangeMaps (open_string shut_string)
open Flt
set_option linter.unusedVariables false
set_option linter.unusedSimpArgs false
theorem ret_bool {a b : Bool} (h : a = b) : Ending.returned (.bool a) = .returned (.bool b) := by rw [h]
theorem ret_fl {k : FloatKind} {a b : Nat} (h : a = b) : Ending.returned (.float k a) = .returned (.float k b) := by rw [h]
theorem abs_c (x : Nat) (w : World) : Calls Try.prog 11 #[.float .f64 x] w fun e w' => e = .returned (.float .f64 (absB x)) ∧ w = w' := by
  have hn := neg_fl
  go_enter Try.func11, Try.ntmps11
  go_wp2
  · go_ret
    exact ⟨ret_fl (by unfold absB ltB; rw [if_pos ‹_›]), rfl⟩
  · go_ret
    exact ⟨ret_fl (by unfold absB ltB; rw [if_neg (by simp [*])]), rfl⟩
theorem close_c (x y t d : Nat) (w : World) (h : floatBits .sub .f64 x y = some d) (hl : leB (absB d) t = true) : Calls Try.prog 12 #[.float .f64 x, .float .f64 y, .float .f64 t] w fun e w' => e = .returned (.bool true) ∧ w = w' := by
  have k := fun w => run_float_arith (P := Try.prog) w .sub 22 .f64 _ _ _ h
  have e1 : (FloatKind.f64.format.order (absB d) t == some .lt || FloatKind.f64.format.order (absB d) t == some .eq) = true := hl
  clear h hl
  go_enter Try.func12, Try.ntmps12
  go_wp2_with (go_at_call 11; (with_reducible refine (abs_c _ _).mono ?_); rintro e w' ⟨rfl, rfl⟩)
  go_ret
  exact ⟨rfl, rfl⟩
theorem in_c (x hi : Nat) (w : World) : Calls Try.prog 9 #[.float .f64 x, .float .f64 hi] w fun e w' => e = .returned (.bool (geB x (negB hi) && leB x hi)) ∧ w = w' := by
  have hn := neg_fl
  go_enter Try.func9, Try.ntmps9
  go_wp2
  all_goals
    go_ret
    exact ⟨ret_bool (by unfold geB leB; simp [*]), rfl⟩
set_option maxRecDepth 100000 in
set_option maxHeartbeats 2000000 in
theorem law_no (s : Nat) (w : World) (h : (geB s (negB 4741671816366391296) && leB s 4741671816366391296) = false) : Calls Try.prog 4 #[.float .f64 s] w fun e w' => e = .returned (.bool true) ∧ Below w.heap.size w w' := by
  go_enter Try.func4, Try.ntmps4
  go_wp2_with (go_at_call 9; refine (in_c _ _ _).mono ?_; rintro e w' ⟨rfl, rfl⟩)
  go_ret
  exact ⟨rfl, Below.refl _ _⟩
set_option maxRecDepth 100000 in
set_option maxHeartbeats 2000000 in
theorem law_a (s x z r0 r1 r2 t23 tol t7 q1 q2 g1 g2 d : Nat) (w : World) (h : (geB s (negB 4741671816366391296) && leB s 4741671816366391296) = true) (h1 : floatBits .mul .f64 s 4606860822843362778 = some x) (h2 : floatBits .mul .f64 s 4605607101106091996 = some z) (h3 : LabP x s z r0 r1 r2) (h4 : floatBits .add .f64 4607182418800017408 (absB s) = some t23) (h5 : floatBits .mul .f64 4472406533629990549 t23 = some tol) (h6 : gtB (absB r1) tol = false) (h7 : gtB (absB r2) tol = false) (b1 : gtB s 4576259018578689238 = true) (k1 : floatBits .add .f64 r0 4625196817309499392 = some t7) (k2 : floatBits .mul .f64 t7 t7 = some q1) (k3 : floatBits .mul .f64 q1 t7 = some q2) (k4 : floatBits .mul .f64 4699454808992514048 s = some g1) (k5 : floatBits .mul .f64 4564841185158361188 s = some g2) (k6 : floatBits .sub .f64 q2 g1 = some d) (k7 : leB (absB d) g2 = true) :
    Calls Try.prog 4 #[.float .f64 s] w fun e w' => e = .returned (.bool true) ∧ Below w.heap.size w w' := by
  have m1 := fun w => run_float_arith (P := Try.prog) w .mul 22 .f64 _ _ _ h1
  have m2 := fun w => run_float_arith (P := Try.prog) w .mul 22 .f64 _ _ _ h2
  have m4 := fun w => run_float_arith (P := Try.prog) w .add 22 .f64 _ _ _ h4
  have m5 := fun w => run_float_arith (P := Try.prog) w .mul 22 .f64 _ _ _ h5
  have nk1 := fun w => run_float_arith (P := Try.prog) w .add 22 .f64 _ _ _ k1
  have nk2 := fun w => run_float_arith (P := Try.prog) w .mul 22 .f64 _ _ _ k2
  have nk3 := fun w => run_float_arith (P := Try.prog) w .mul 22 .f64 _ _ _ k3
  have nk4 := fun w => run_float_arith (P := Try.prog) w .mul 22 .f64 _ _ _ k4
  have nk5 := fun w => run_float_arith (P := Try.prog) w .mul 22 .f64 _ _ _ k5
  have e6 : (FloatKind.f64.format.order (absB r1) tol == some .gt) = false := h6
  have e7 : (FloatKind.f64.format.order (absB r2) tol == some .gt) = false := h7
  have e8 : (FloatKind.f64.format.order s 4576259018578689238 == some .gt) = true := b1
  have C3 := Lib.hid (fun w => lab10_c x s z r0 r1 r2 w h3)
  have C8 := Lib.hid (fun w => close_c q2 g1 g2 d w k6 k7)
  clear h1 h2 h3 h4 h5 h6 h7 b1 k1 k2 k3 k4 k5 k6 k7
  generalize hsa : absB s = sa at *
  have HS := Lib.hid hsa
  clear hsa
  go_enter Try.func4, Try.ntmps4
  go_wp2_with (first | (go_at_call 9; refine (in_c _ _ _).mono ?_; rintro e w' ⟨rfl, rfl⟩) | (go_at_call 10; (with_reducible refine (C3.out _).mono ?_); rintro e w' ⟨rfl, hb⟩) | (go_at_call 12; (with_reducible refine (C8.out _).mono ?_); rintro e w' ⟨rfl, rfl⟩) | (go_at_call 11; refine (abs_c _ _).mono ?_; rintro e w' ⟨rfl, rfl⟩; try rw [HS.out]))
  go_ret
  exact ⟨rfl, hb⟩
set_option maxRecDepth 100000 in
set_option maxHeartbeats 2000000 in
theorem law_b (s x z r0 r1 r2 t23 tol g1 g2 g3 g4 d : Nat) (w : World) (h : (geB s (negB 4741671816366391296) && leB s 4741671816366391296) = true) (h1 : floatBits .mul .f64 s 4606860822843362778 = some x) (h2 : floatBits .mul .f64 s 4605607101106091996 = some z) (h3 : LabP x s z r0 r1 r2) (h4 : floatBits .add .f64 4607182418800017408 (absB s) = some t23) (h5 : floatBits .mul .f64 4472406533629990549 t23 = some tol) (h6 : gtB (absB r1) tol = false) (h7 : gtB (absB r2) tol = false) (b1 : gtB s 4576259018578689238 = false) (k1 : floatBits .mul .f64 4651156694067819558 s = some g1) (k2 : floatBits .mul .f64 4651156694067819558 (absB s) = some g2) (k3 : floatBits .add .f64 4607182418800017408 g2 = some g3) (k4 : floatBits .mul .f64 4472406533629990549 g3 = some g4) (k5 : floatBits .sub .f64 r0 g1 = some d) (k6 : leB (absB d) g4 = true) :
    Calls Try.prog 4 #[.float .f64 s] w fun e w' => e = .returned (.bool true) ∧ Below w.heap.size w w' := by
  have m1 := fun w => run_float_arith (P := Try.prog) w .mul 22 .f64 _ _ _ h1
  have m2 := fun w => run_float_arith (P := Try.prog) w .mul 22 .f64 _ _ _ h2
  have m4 := fun w => run_float_arith (P := Try.prog) w .add 22 .f64 _ _ _ h4
  have m5 := fun w => run_float_arith (P := Try.prog) w .mul 22 .f64 _ _ _ h5
  have nk1 := fun w => run_float_arith (P := Try.prog) w .mul 22 .f64 _ _ _ k1
  have nk2 := fun w => run_float_arith (P := Try.prog) w .mul 22 .f64 _ _ _ k2
  have nk3 := fun w => run_float_arith (P := Try.prog) w .add 22 .f64 _ _ _ k3
  have nk4 := fun w => run_float_arith (P := Try.prog) w .mul 22 .f64 _ _ _ k4
  have e6 : (FloatKind.f64.format.order (absB r1) tol == some .gt) = false := h6
  have e7 : (FloatKind.f64.format.order (absB r2) tol == some .gt) = false := h7
  have e8 : (FloatKind.f64.format.order s 4576259018578689238 == some .gt) = false := b1
  have C3 := Lib.hid (fun w => lab10_c x s z r0 r1 r2 w h3)
  have C8 := Lib.hid (fun w => close_c r0 g1 g4 d w k5 k6)
  clear h1 h2 h3 h4 h5 h6 h7 b1 k1 k2 k3 k4 k5 k6
  generalize hsa : absB s = sa at *
  have HS := Lib.hid hsa
  clear hsa
  go_enter Try.func4, Try.ntmps4
  go_wp2_with (first | (go_at_call 9; refine (in_c _ _ _).mono ?_; rintro e w' ⟨rfl, rfl⟩) | (go_at_call 10; (with_reducible refine (C3.out _).mono ?_); rintro e w' ⟨rfl, hb⟩) | (go_at_call 12; (with_reducible refine (C8.out _).mono ?_); rintro e w' ⟨rfl, rfl⟩) | (go_at_call 11; refine (abs_c _ _).mono ?_; rintro e w' ⟨rfl, rfl⟩; try rw [HS.out]))
  go_ret
  exact ⟨rfl, hb⟩
theorem walk (a0 : Nat) (w0 : (Lit.float .f64 a0).wf = true) (w : World) :
    Calls Try.prog 4 #[.float .f64 a0] w fun e w' => e = .returned (.bool true) ∧ Below w.heap.size w w' := by
  by_cases h : (geB a0 (negB 4741671816366391296) && leB a0 4741671816366391296) = true
  · obtain ⟨x, z, r0, r1, r2, t23, tol, h1, h2, h3, h4, h5, h6, h7, hc⟩ := lab_plain a0 (wf_lt w0) h
    rcases hc with ⟨b, t7, q1, q2, g1, g2, d, k1, k2, k3, k4, k5, k6, k7⟩ | ⟨b, g1, g2, g3, g4, d, k1, k2, k3, k4, k5, k6⟩
    · exact law_a a0 x z r0 r1 r2 t23 tol t7 q1 q2 g1 g2 d w h h1 h2 h3 h4 h5 h6 h7 b k1 k2 k3 k4 k5 k6 k7
    · exact law_b a0 x z r0 r1 r2 t23 tol g1 g2 g3 g4 d w h h1 h2 h3 h4 h5 h6 h7 b k1 k2 k3 k4 k5 k6
  · exact law_no a0 w (by simpa using h)
-- theorem walk (a0 : Nat) (w0 : (Lit.float .f64 a0).wf = true) (w : World) :
--    Calls Try.prog 4 #[.float .f64 a0] w fun e w' => e = .returned (.bool true) ∧ Below w.heap.size w w'
theorem own : ownKnob Try.prog.godebug = none := by kernel_rfl
set_option maxRecDepth 100000 in
theorem lifted (os : Os) (started : os.Started) (H : Type) (enc : TypeId × Value → H) :
    ReturnsInHanded {} Try.checked os 4 .any (Rows.fnXyzToLabNeutralAxisSpec.pre6 enc Try.prog Try.f4 Rows.fnXyzToLabNeutralAxisRow.domain false) (Rows.fnXyzToLabNeutralAxisSpec.post enc Try.prog Try.f4 false true false false) := by
  refine returnsInHanded_of_change (C := Try.checked) own started (by kernel_rfl) Try.func4
    (ChangeSpec.witness6 (enc := enc) (C := Try.checked) false ⟨#[], #[.float .f64 0], []⟩ 8 (by kernel_rfl) (by kernel_rfl) (by kernel_rfl) (by kernel_rfl)) ?_
  intro W base args ds gs before hval0 hW hcnd _
  have hval : ∀ (j : Nat) t v, Try.f4.params[j]? = some t → args[j]? = some v → Value.okWide Try.prog W .any base t v := hval0
  have hW' := hW
  obtain ⟨p, q, hA0, hV, rfl, hfz, hnd⟩ := hW
  have hA : DataW.TrodAll enc Try.prog W 0 (fun _ => true) true Try.f4.params.toList args.toList ds p := hA0
  rw [Try.params4] at hA hval
  obtain ⟨v0, vs0, d0, ds0, p0, q0, hargs, rfl, rfl, h0, r0⟩ := trodAll_cons hA
  obtain ⟨rfl, rfl, rfl⟩ := trodAll_nil r0
  obtain rfl : args = #[v0] := by cases args; simp_all
  obtain ⟨rfl, rfl⟩ := trodVars_none hV
  obtain ⟨a0, rfl, rfl, rfl, w0⟩ := open_float Try.underlying22 (hval 0 22 v0 rfl rfl) h0
  clear hA0 hval0
  simp only [List.append_nil] at hW'
  refine (walk a0 w0 W).mono fun e W' ⟨he, bel⟩ => ?_
  subst he
  exact ⟨_, rfl, _, _, _, [], [], [], hW', trodAll_mk1 (shut_bool Try.underlying4 _), (trodAll_cons_mk (shut_float Try.underlying22 w0) trodAll_mk0), rfl, bel.frame _, fun h => by cases h⟩

theorem over : Rows.fnXyzToLabNeutralAxisRow.holds Try.pinned (OpenSpec.ofChange Rows.fnXyzToLabNeutralAxisSpec) :=
  OpenClaim.holds_of_wide 4 Try.f4 rfl rfl rfl rfl rfl rfl rfl ⟨rfl, rfl, rfl, rfl, rfl⟩ rfl rfl rfl rfl rfl (by kernel_rfl) Try.func4 (by kernel_rfl)
    (of_decide_eq_true (by kernel_rfl)) (by unfold Func.isWrapper; first | (rw [if_pos (by decide +kernel)]; kernel_rfl) | (rw [if_neg (by decide +kernel)]; exact ⟨rfl, rfl⟩))
    (fun os started H enc _ => lifted os started H enc)

theorem proved : Rows.FnXyzToLabNeutralAxisSaid :=
  over
#print axioms proved
end Go.Proofs.Ytpjbhbbhkhfiaaa.fnXyzToLabNeutralAxis

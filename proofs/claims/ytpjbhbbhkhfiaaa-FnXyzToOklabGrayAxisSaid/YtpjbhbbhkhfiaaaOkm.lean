/- Proved: for every float64 k the law FnXyzToOklabGrayAxis returns true, and its argument reads afterwards as before. No condition. -/
import Derived.Test.YtpjbhbbhkhfiaaaOkl
import Derived.ShutString
namespace Go.Proofs.Ytpjbhbbhkhfiaaa.fnXyzToOklabGrayAxis
open Go.ChangeShapes Go.WideShapes Go.ChangeAt Go.RowKit Go.Sort
open Go.ChangeMaps (open_string shut_string)
open Flt
set_option linter.unusedVariables false
set_option linter.unusedSimpArgs false
theorem ret_bool {a b : Bool} (h : a = b) : Ending.returned (.bool a) = .returned (.bool b) := by rw [h]
theorem ret_fl {k : FloatKind} {a b : Nat} (h : a = b) : Ending.returned (.float k a) = .returned (.float k b) := by rw [h]
theorem abs_c (x : Nat) (w : World) : Calls Try.prog 8 #[.float .f64 x] w fun e w' => e = .returned (.float .f64 (absB x)) ∧ w = w' := by
  have hn := neg_fl
  go_enter Try.func8, Try.ntmps8
  go_wp2
  · go_ret
    exact ⟨ret_fl (by unfold absB ltB; rw [if_pos ‹_›]), rfl⟩
  · go_ret
    exact ⟨ret_fl (by unfold absB ltB; rw [if_neg (by simp [*])]), rfl⟩
theorem close_c (x y t d : Nat) (w : World) (h : floatBits .sub .f64 x y = some d) (hl : leB (absB d) t = true) : Calls Try.prog 7 #[.float .f64 x, .float .f64 y, .float .f64 t] w fun e w' => e = .returned (.bool true) ∧ w = w' := by
  have k := fun w => run_float_arith (P := Try.prog) w .sub 22 .f64 _ _ _ h
  have e1 : (FloatKind.f64.format.order (absB d) t == some .lt || FloatKind.f64.format.order (absB d) t == some .eq) = true := hl
  clear h hl
  go_enter Try.func7, Try.ntmps7
  go_wp2_with (go_at_call 8; (with_reducible refine (abs_c _ _).mono ?_); rintro e w' ⟨rfl, rfl⟩)
  go_ret
  exact ⟨rfl, rfl⟩
theorem in_c (x lo hi : Nat) (w : World) : Calls Try.prog 5 #[.float .f64 x, .float .f64 lo, .float .f64 hi] w fun e w' => e = .returned (.bool (geB x lo && leB x hi)) ∧ w = w' := by
  go_enter Try.func5, Try.ntmps5
  go_wp2
  all_goals
    go_ret
    exact ⟨ret_bool (by unfold geB leB; simp [*]), rfl⟩
set_option maxRecDepth 100000 in
set_option maxHeartbeats 2000000 in
theorem law_no (k : Nat) (w : World) (h : (geB k 4517329193108106637 && leB k 4652007308841189376) = false) : Calls Try.prog 3 #[.float .f64 k] w fun e w' => e = .returned (.bool true) ∧ Below w.heap.size w w' := by
  go_enter Try.func3, Try.ntmps3
  go_wp2_with (go_at_call 5; refine (in_c _ _ _ _).mono ?_; rintro e w' ⟨rfl, rfl⟩)
  go_ret
  exact ⟨rfl, Below.refl _ _⟩
set_option maxRecDepth 100000 in
set_option maxHeartbeats 2000000 in
theorem law_yes (k x z l a b q2 q3 t d u : Nat) (w : World) (h : (geB k 4517329193108106637 && leB k 4652007308841189376) = true) (h1 : floatBits .mul .f64 k 4606736165463080392 = some x) (h2 : floatBits .mul .f64 k 4607583499253154051 = some z) (h3 : OkP x k z l a b) (h4 : gtB l 0 = true)
    (h5 : floatBits .mul .f64 l l = some q2) (h6 : floatBits .mul .f64 q2 l = some q3) (h7 : floatBits .mul .f64 4532020583610935537 k = some t) (h8 : floatBits .sub .f64 q3 k = some d) (h9 : leB (absB d) t = true) (h10 : floatBits .mul .f64 4532020583610935537 l = some u) (h11 : leB (absB a) u = true) (h12 : leB (absB b) u = true) :
    Calls Try.prog 3 #[.float .f64 k] w fun e w' => e = .returned (.bool true) ∧ Below w.heap.size w w' := by
  have m1 := fun w => run_float_arith (P := Try.prog) w .mul 22 .f64 _ _ _ h1
  have m2 := fun w => run_float_arith (P := Try.prog) w .mul 22 .f64 _ _ _ h2
  have m5 := fun w => run_float_arith (P := Try.prog) w .mul 22 .f64 _ _ _ h5
  have m6 := fun w => run_float_arith (P := Try.prog) w .mul 22 .f64 _ _ _ h6
  have m7 := fun w => run_float_arith (P := Try.prog) w .mul 22 .f64 _ _ _ h7
  have m10 := fun w => run_float_arith (P := Try.prog) w .mul 22 .f64 _ _ _ h10
  have e4 : (FloatKind.f64.format.order l 0 == some .gt) = true := h4
  have e11 : (FloatKind.f64.format.order (absB a) u == some .lt || FloatKind.f64.format.order (absB a) u == some .eq) = true := h11
  have e12 : (FloatKind.f64.format.order (absB b) u == some .lt || FloatKind.f64.format.order (absB b) u == some .eq) = true := h12
  have C3 := Lib.hid (fun w => ok6_c x k z l a b w h3)
  have C8 := Lib.hid (fun w => close_c q3 k t d w h8 h9)
  clear h1 h2 h3 h4 h5 h6 h7 h8 h9 h10 h11 h12
  go_enter Try.func3, Try.ntmps3
  go_wp2_with (first | (go_at_call 5; refine (in_c _ _ _ _).mono ?_; rintro e w' ⟨rfl, rfl⟩) | (go_at_call 6; (with_reducible refine (C3.out _).mono ?_); rintro e w' ⟨rfl, hb⟩) | (go_at_call 7; (with_reducible refine (C8.out _).mono ?_); rintro e w' ⟨rfl, rfl⟩) | (go_at_call 8; refine (abs_c _ _).mono ?_; rintro e w' ⟨rfl, rfl⟩))
  go_ret
  exact ⟨rfl, hb⟩
theorem walk (a0 : Nat) (w0 : (Lit.float .f64 a0).wf = true) (w : World) :
    Calls Try.prog 3 #[.float .f64 a0] w fun e w' => e = .returned (.bool true) ∧ Below w.heap.size w w' := by
  by_cases h : (geB a0 4517329193108106637 && leB a0 4652007308841189376) = true
  · obtain ⟨x, z, l, a, b, q2, q3, t, d, u, h1, h2, h3, h4, h5, h6, h7, h8, h9, h10, h11, h12⟩ := ok_plain a0 (wf_lt w0) h
    exact law_yes a0 x z l a b q2 q3 t d u w h h1 h2 h3 h4 h5 h6 h7 h8 h9 h10 h11 h12
  · exact law_no a0 w (by simpa using h)
-- theorem walk (a0 : Nat) (w0 : (Lit.float .f64 a0).wf = true) (w : World) :
--    Calls Try.prog 3 #[.float .f64 a0] w fun e w' => e = .returned (.bool true) ∧ Below w.heap.size w w'
theorem own : ownKnob Try.prog.godebug = none := by kernel_rfl
set_option maxRecDepth 100000 in
theorem lifted (os : Os) (started : os.Started) (H : Type) (enc : TypeId × Value → H) :
    ReturnsInHanded {} Try.checked os 3 .any (Rows.fnXyzToOklabGrayAxisSpec.pre6 enc Try.prog Try.f3 Rows.fnXyzToOklabGrayAxisRow.domain false) (Rows.fnXyzToOklabGrayAxisSpec.post enc Try.prog Try.f3 false true false false) := by
  refine returnsInHanded_of_change (C := Try.checked) own started (by kernel_rfl) Try.func3
    (ChangeSpec.witness6 (enc := enc) (C := Try.checked) false ⟨#[], #[.float .f64 0], []⟩ 8 (by kernel_rfl) (by kernel_rfl) (by kernel_rfl) (by kernel_rfl)) ?_
  intro W base args ds gs before hval0 hW hcnd _
  have hval : ∀ (j : Nat) t v, Try.f3.params[j]? = some t → args[j]? = some v → Value.okWide Try.prog W .any base t v := hval0
  have hW' := hW
  obtain ⟨p, q, hA0, hV, rfl, hfz, hnd⟩ := hW
  have hA : DataW.TrodAll enc Try.prog W 0 (fun _ => true) true Try.f3.params.toList args.toList ds p := hA0
  rw [Try.params3] at hA hval
  obtain ⟨v0, vs0, d0, ds0, p0, q0, hargs, rfl, rfl, h0, r0⟩ := trodAll_cons hA
  obtain ⟨rfl, rfl, rfl⟩ := trodAll_nil r0
  obtain rfl : args = #[v0] := by cases args; simp_all
  obtain ⟨rfl, rfl⟩ := trodVars_none hV
  obtain ⟨a0, rfl, rfl, rfl, w0⟩ := open_float Try.underlying22 (hval 0 22 v0 rfl rfl) h0
  clear hA0 hval0
  simp only [List.append_nil] at hW'
  refine (walk a0 w0 W).mono fun e W' ⟨he, bel⟩ => ?_
  subst he
  exact ⟨_, rfl, _, _, _, [], [], [], hW', trodAll_mk1 (shut_bool Try.underlying4 _), (trodAll_cons_mk (shut_float Try.underlying22 w0) trodAll_mk0), rfl, bel.frame _, fun h => by cases h⟩

theorem over : Rows.fnXyzToOklabGrayAxisRow.holds Try.pinned (OpenSpec.ofChange Rows.fnXyzToOklabGrayAxisSpec) :=
  OpenClaim.holds_of_wide 3 Try.f3 rfl rfl rfl rfl rfl rfl rfl ⟨rfl, rfl, rfl, rfl, rfl⟩ rfl rfl rfl rfl rfl (by kernel_rfl) Try.func3 (by kernel_rfl)
    (of_decide_eq_true (by kernel_rfl)) (by unfold Func.isWrapper; first | (rw [if_pos (by decide +kernel)]; kernel_rfl) | (rw [if_neg (by decide +kernel)]; exact ⟨rfl, rfl⟩))
    (fun os started H enc _ => lifted os started H enc)

theorem proved : Rows.FnXyzToOklabGrayAxisSaid :=
  over
#print axioms proved
end Go.Proofs.Ytpjbhbbhkhfiaaa.fnXyzToOklabGrayAxis

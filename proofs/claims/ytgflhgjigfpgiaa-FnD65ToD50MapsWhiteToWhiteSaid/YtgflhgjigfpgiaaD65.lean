/- Proved: for every float64 s the law FnD65ToD50MapsWhiteToWhite returns true, and its argument reads afterwards as before. No condition. -/
import Derived.Test.YtgflhgjigfpgiaaMat
import Derived.ShutString
namespace Go.Proofs.Ytgflhgjigfpgiaa.fnD65ToD50MapsWhiteToWhite
open Go.ChangeShapes Go.WideShapes Go.ChangeAt Go.RowKit Go.Sort
open Go.ChangeMaps (open_string shut_string)
open Flt
set_option linter.unusedVariables false
theorem ret_bool {a b : Bool} (h : a = b) : Ending.returned (.bool a) = .returned (.bool b) := by rw [h]
theorem ret_fl {k : FloatKind} {a b : Nat} (h : a = b) : Ending.returned (.float k a) = .returned (.float k b) := by rw [h]
theorem neg_fl (x : Nat) (w : World) : (Op.unary .neg (.float .f64 x)).run Try.prog w = .ok (.float .f64 (negB x)) w := rfl
theorem zzAbs70_c (x : Nat) (w : World) : Calls Try.prog 10 #[.float .f64 x] w fun e w' => e = .returned (.float .f64 (absB x)) ∧ w = w' := by
  have hn := neg_fl
  go_enter Try.func10, Try.ntmps10
  go_wp2
  · go_ret
    exact ⟨ret_fl (by unfold absB ltB; rw [if_pos ‹_›]), rfl⟩
  · go_ret
    exact ⟨ret_fl (by unfold absB ltB; rw [if_neg (by simp [*])]), rfl⟩
theorem zzIn70_c (x m : Nat) (w : World) : Calls Try.prog 8 #[.float .f64 x, .float .f64 m] w fun e w' => e = .returned (.bool (geB x (negB m) && leB x m)) ∧ w = w' := by
  have hn := neg_fl
  go_enter Try.func8, Try.ntmps8
  go_wp2
  all_goals
    go_ret
    exact ⟨ret_bool (by unfold geB leB; simp [*]), rfl⟩
theorem zzNear70_c (x y t d : Nat) (w : World) (h : floatBits .sub .f64 x y = some d) : Calls Try.prog 11 #[.float .f64 x, .float .f64 y, .float .f64 t] w fun e w' => e = .returned (.bool (leB (absB d) t)) ∧ w = w' := by
  have k := fun w => run_float_arith (P := Try.prog) w .sub 22 .f64 _ _ _ h
  clear h
  go_enter Try.func11, Try.ntmps11
  go_wp2_with (go_at_call 10; refine (zzAbs70_c _ _).mono ?_; rintro e w' ⟨rfl, rfl⟩)
  go_ret
  exact ⟨rfl, rfl⟩
set_option maxRecDepth 100000 in
theorem law_no (s : Nat) (w : World) (h : (geB s (negB 4741671816366391296) && leB s 4741671816366391296) = false) :
    Calls Try.prog 3 #[.float .f64 s] w fun e w' => e = .returned (.bool true) ∧ Below w.heap.size w w' := by
  go_enter Try.func3, Try.ntmps3
  go_wp2_with (go_at_call 8; refine (zzIn70_c _ _ _).mono ?_; rintro e w' ⟨rfl, rfl⟩)
  go_ret
  exact ⟨rfl, Below.refl _ _⟩
set_option maxRecDepth 100000 in
set_option maxHeartbeats 1000000 in
theorem law_yes (s x0 z0 r0 r1 r2 t0 t d0 d1 d2 e0 e2 : Nat) (w : World) (h : (geB s (negB 4741671816366391296) && leB s 4741671816366391296) = true)
    (hx : floatBits .mul .f64 s 4606736165463080392 = some x0) (hz : floatBits .mul .f64 s 4607583499253154051 = some z0)
    (h0 : Row 4607398275395863001 4582271206553430542 13810766325786792494 x0 s z0 r0) (h1 : Row 4584196855874768158 4607096259775803785 13803950445789587696 x0 s z0 r1) (h2 : Row 13799853908800311418 4579832348793622812 4604947501012614851 x0 s z0 r2)
    (ht0 : floatBits .mul .f64 4517329193108106637 (absB s) = some t0) (ht : floatBits .add .f64 t0 118622047889322841 = some t)
    (he0 : floatBits .mul .f64 s 4606860822843362778 = some e0) (he2 : floatBits .mul .f64 s 4605607101106091996 = some e2)
    (hd0 : floatBits .sub .f64 r0 e0 = some d0) (hd1 : floatBits .sub .f64 r1 s = some d1) (hd2 : floatBits .sub .f64 r2 e2 = some d2)
    (l0 : leB (absB d0) t = true) (l1 : leB (absB d1) t = true) (l2 : leB (absB d2) t = true) :
    Calls Try.prog 3 #[.float .f64 s] w fun e w' => e = .returned (.bool true) ∧ Below w.heap.size w w' := by
  have k1 := fun w => run_float_arith (P := Try.prog) w .mul 22 .f64 _ _ _ hx
  have k2 := fun w => run_float_arith (P := Try.prog) w .mul 22 .f64 _ _ _ hz
  have k3 := fun w => run_float_arith (P := Try.prog) w .mul 22 .f64 _ _ _ ht0
  have k4 := fun w => run_float_arith (P := Try.prog) w .add 22 .f64 _ _ _ ht
  have k5 := fun w => run_float_arith (P := Try.prog) w .mul 22 .f64 _ _ _ he0
  have k6 := fun w => run_float_arith (P := Try.prog) w .mul 22 .f64 _ _ _ he2
  have H0 := Lib.hid h0; have H1 := Lib.hid h1; have H2 := Lib.hid h2
  have D0 := Lib.hid hd0; have D1 := Lib.hid hd1; have D2 := Lib.hid hd2
  clear h0 h1 h2 hx hz ht0 ht he0 he2 hd0 hd1 hd2
  go_enter Try.func3, Try.ntmps3
  go_wp2_with (first | (go_at_call 8; refine (zzIn70_c _ _ _).mono ?_; rintro e w' ⟨rfl, rfl⟩) | (go_at_call 9; (with_reducible refine (ZZd65ToD50_n011_70_c _ _ _ _ _ _ _ H0.out H1.out H2.out).mono ?_); rintro e w' ⟨rfl, hb⟩) | (go_at_call 10; refine (zzAbs70_c _ _).mono ?_; rintro e w' ⟨rfl, rfl⟩) | (go_at_call 11; (with_reducible refine (zzNear70_c _ _ _ _ _ D0.out).mono ?_); rintro e w' ⟨rfl, rfl⟩) | (go_at_call 11; (with_reducible refine (zzNear70_c _ _ _ _ _ D1.out).mono ?_); rintro e w' ⟨rfl, rfl⟩) | (go_at_call 11; (with_reducible refine (zzNear70_c _ _ _ _ _ D2.out).mono ?_); rintro e w' ⟨rfl, rfl⟩))
  go_ret
  exact ⟨rfl, hb⟩
theorem k4606736165463080392 : fin 4606736165463080392 ∧ val 4606736165463080392 = 1070118239725497 / 1125899906842624 := const_val (by decide +kernel) (by decide +kernel)
theorem k4607583499253154051 : fin 4607583499253154051 ∧ val 4607583499253154051 = 4904680080507139 / 4503599627370496 := const_val (by decide +kernel) (by decide +kernel)
theorem k4607398275395863001 : fin 4607398275395863001 ∧ val 4607398275395863001 = 4719456223216089 / 4503599627370496 := const_val (by decide +kernel) (by decide +kernel)
theorem k4582271206553430542 : fin 4582271206553430542 ∧ val 4582271206553430542 = 3306992572503303 / 144115188075855872 := const_val (by decide +kernel) (by decide +kernel)
theorem k13810766325786792494 : fin 13810766325786792494 ∧ val 13810766325786792494 = -3616733948111127 / 72057594037927936 := const_val (by decide +kernel) (by decide +kernel)
theorem k4584196855874768158 : fin 4584196855874768158 ∧ val 4584196855874768158 = 4269817233172111 / 144115188075855872 := const_val (by decide +kernel) (by decide +kernel)
theorem k4607096259775803785 : fin 4607096259775803785 ∧ val 4607096259775803785 = 8921040230527369 / 9007199254740992 := const_val (by decide +kernel) (by decide +kernel)
theorem k13803950445789587696 : fin 13803950445789587696 ∧ val 13803950445789587696 = -307574220399247 / 18014398509481984 := const_val (by decide +kernel) (by decide +kernel)
theorem k13799853908800311418 : fin 13799853908800311418 ∧ val 13799853908800311418 = -2664125082241085 / 288230376151711744 := const_val (by decide +kernel) (by decide +kernel)
theorem k4579832348793622812 : fin 4579832348793622812 ∧ val 4579832348793622812 = 2169681753142343 / 144115188075855872 := const_val (by decide +kernel) (by decide +kernel)
theorem k4604947501012614851 : fin 4604947501012614851 ∧ val 4604947501012614851 = 6772281467338435 / 9007199254740992 := const_val (by decide +kernel) (by decide +kernel)
theorem k4517329193108106637 : fin 4517329193108106637 ∧ val 4517329193108106637 = 4722366482869645 / 4722366482869645213696 := const_val (by decide +kernel) (by decide +kernel)
theorem k4606860822843362778 : fin 4606860822843362778 ∧ val 4606860822843362778 = 4342801649043181 / 4503599627370496 := const_val (by decide +kernel) (by decide +kernel)
theorem k4605607101106091996 : fin 4605607101106091996 ∧ val 4605607101106091996 = 1857970390203895 / 2251799813685248 := const_val (by decide +kernel) (by decide +kernel)
theorem k300 : fin 118622047889322841 ∧ 10 ^ 15 * eta ≤ val 118622047889322841 ∧ val 118622047889322841 ≤ 1 := ⟨fin_of (by decide +kernel), by unfold eta; decide +kernel, by decide +kernel⟩
theorem t1000' : (10 : Rat) ^ 300 ≤ two 1000 := by unfold two; decide +kernel
set_option maxHeartbeats 4000000 in
theorem d65_plain (s : Nat) (hw : s < 2 ^ 64) (h : (geB s (negB 4741671816366391296) && leB s 4741671816366391296) = true) :
    ∃ x0 z0 r0 r1 r2 t0 t d0 d1 d2 e0 e2 : Nat,
    floatBits .mul .f64 s 4606736165463080392 = some x0 ∧ floatBits .mul .f64 s 4607583499253154051 = some z0 ∧
    Row 4607398275395863001 4582271206553430542 13810766325786792494 x0 s z0 r0 ∧ Row 4584196855874768158 4607096259775803785 13803950445789587696 x0 s z0 r1 ∧ Row 13799853908800311418 4579832348793622812 4604947501012614851 x0 s z0 r2 ∧
    floatBits .mul .f64 4517329193108106637 (absB s) = some t0 ∧ floatBits .add .f64 t0 118622047889322841 = some t ∧
    floatBits .mul .f64 s 4606860822843362778 = some e0 ∧ floatBits .mul .f64 s 4605607101106091996 = some e2 ∧
    floatBits .sub .f64 r0 e0 = some d0 ∧ floatBits .sub .f64 r1 s = some d1 ∧ floatBits .sub .f64 r2 e2 = some d2 ∧
    leB (absB d0) t = true ∧ leB (absB d1) t = true ∧ leB (absB d2) t = true := by
  obtain ⟨c9, v9⟩ := c1e9
  obtain ⟨n9, nv9⟩ := negB_val (by decide) c9
  rw [Bool.and_eq_true] at h
  have fs := fin_of_between n9 c9 h.1 h.2
  have b1 := (geB_iff fs n9).1 h.1
  have b2 := (leB_iff fs c9).1 h.2
  rw [nv9, v9] at b1
  rw [v9] at b2
  obtain ⟨fa, a0, a1, a2⟩ := absB_val hw fs
  have aU : val (absB s) ≤ 1000000000 := by rcases a2 with e | e <;> grind
  clear h n9 nv9 c9 v9
  have T := t1000
  have T' := t1000'
  have e0 := eta_pos
  have e1 : eta ≤ 1 / 100 := by have := eta_small; grind
  obtain ⟨kf, kv⟩ := k4606736165463080392
  obtain ⟨mf, mv⟩ := k4607583499253154051
  unfold Abs at a1
  obtain ⟨x0, fx0, gx0, nx0⟩ := mul_near s _ fs kf (val (absB s)) (by rw [kv]; grind) (by rw [kv]; grind) (by grind)
  obtain ⟨z0, fz0, gz0, nz0⟩ := mul_near s _ fs mf (2 * val (absB s)) (by rw [mv]; grind) (by rw [mv]; grind) (by grind)
  unfold Near at nx0 nz0
  rw [kv, uu_val] at nx0
  rw [mv, uu_val] at nz0
  have B1 : Abs (val x0) (2 * val (absB s) + 4 * eta) := by unfold Abs; constructor <;> grind
  have B2 : Abs (val s) (2 * val (absB s) + 4 * eta) := by unfold Abs; constructor <;> grind
  have B3 : Abs (val z0) (2 * val (absB s) + 4 * eta) := by unfold Abs; constructor <;> grind
  have BB : 2 * val (absB s) + 4 * eta ≤ two 1000 := by grind
  obtain ⟨p0, q0⟩ := k4607398275395863001
  obtain ⟨p1, q1⟩ := k4582271206553430542
  obtain ⟨p2, q2⟩ := k13810766325786792494
  obtain ⟨p3, q3⟩ := k4584196855874768158
  obtain ⟨p4, q4⟩ := k4607096259775803785
  obtain ⟨p5, q5⟩ := k13803950445789587696
  obtain ⟨p6, q6⟩ := k13799853908800311418
  obtain ⟨p7, q7⟩ := k4579832348793622812
  obtain ⟨p8, q8⟩ := k4604947501012614851
  obtain ⟨r0, R0, fr0, nr0⟩ := row_near _ _ _ x0 s z0 p0 p1 p2 gx0 fs gz0 (by rw [q0]; unfold Abs; grind) (by rw [q1]; unfold Abs; grind) (by rw [q2]; unfold Abs; grind) _ B1 B2 B3 BB
  obtain ⟨r1, R1, fr1, nr1⟩ := row_near _ _ _ x0 s z0 p3 p4 p5 gx0 fs gz0 (by rw [q3]; unfold Abs; grind) (by rw [q4]; unfold Abs; grind) (by rw [q5]; unfold Abs; grind) _ B1 B2 B3 BB
  obtain ⟨r2, R2, fr2, nr2⟩ := row_near _ _ _ x0 s z0 p6 p7 p8 gx0 fs gz0 (by rw [q6]; unfold Abs; grind) (by rw [q7]; unfold Abs; grind) (by rw [q8]; unfold Abs; grind) _ B1 B2 B3 BB
  unfold Near at nr0 nr1 nr2
  rw [q0, q1, q2, uu_val] at nr0
  rw [q3, q4, q5, uu_val] at nr1
  rw [q6, q7, q8, uu_val] at nr2
  obtain ⟨kt, vt⟩ := k4517329193108106637
  obtain ⟨t0, ft0, gt0, nt0⟩ := mul_near _ (absB s) kt fa (val (absB s)) (by rw [vt]; grind) (by rw [vt]; grind) (by grind)
  unfold Near at nt0
  rw [vt, uu_val] at nt0
  obtain ⟨k3, v3, v3'⟩ := k300
  obtain ⟨t, ft, gt, nt⟩ := add_near t0 _ gt0 k3 (val (absB s) + 2 * val 118622047889322841) (by grind) (by grind) (by grind)
  unfold Near at nt
  rw [uu_val] at nt
  obtain ⟨ke, ve⟩ := k4606860822843362778
  obtain ⟨kg, vg⟩ := k4605607101106091996
  obtain ⟨e0', fe0, ge0, ne0⟩ := mul_near s _ fs ke (val (absB s)) (by rw [ve]; grind) (by rw [ve]; grind) (by grind)
  obtain ⟨e2', fe2, ge2, ne2⟩ := mul_near s _ fs kg (val (absB s)) (by rw [vg]; grind) (by rw [vg]; grind) (by grind)
  unfold Near at ne0 ne2
  rw [ve, uu_val] at ne0
  rw [vg, uu_val] at ne2
  have D0 : Abs (val r0 - val e0') (val (absB s) / 1000000000 + 1000 * eta) := by unfold Abs; constructor <;> grind
  have D1 : Abs (val r1 - val s) (val (absB s) / 1000000000 + 1000 * eta) := by unfold Abs; constructor <;> grind
  have D2 : Abs (val r2 - val e2') (val (absB s) / 1000000000 + 1000 * eta) := by unfold Abs; constructor <;> grind
  clear nr0 nr1 nr2 ne0 ne2 nx0 nz0
  obtain ⟨d0, fd0, gd0, nd0⟩ := sub_near r0 e0' fr0 ge0 _ D0.1 D0.2 (by grind)
  obtain ⟨d1, fd1, gd1, nd1⟩ := sub_near r1 s fr1 fs _ D1.1 D1.2 (by grind)
  obtain ⟨d2, fd2, gd2, nd2⟩ := sub_near r2 e2' fr2 ge2 _ D2.1 D2.2 (by grind)
  have fin : ∀ r e d : Nat, fin d → d < 2 ^ 64 → Abs (val r - val e) (val (absB s) / 1000000000 + 1000 * eta) → Near (val d) (val r - val e) (uu * (val (absB s) / 1000000000 + 1000 * eta) + eta) → leB (absB d) t = true := by
    intro r e d gd hd D nd
    obtain ⟨ga, g0, g1, g2⟩ := absB_val hd gd
    rw [leB_iff ga gt]
    unfold Near at nd
    unfold Abs at D
    rw [uu_val] at nd
    rcases g2 with g2 | g2 <;> grind
  exact ⟨x0, z0, r0, r1, r2, t0, t, d0, d1, d2, e0', e2', fx0, fz0, R0, R1, R2, ft0, ft, fe0, fe2, fd0, fd1, fd2, fin _ _ _ gd0 (bits_lt fd0) D0 nd0, fin _ _ _ gd1 (bits_lt fd1) D1 nd1, fin _ _ _ gd2 (bits_lt fd2) D2 nd2⟩
theorem walk (a0 : Nat) (w0 : (Lit.float .f64 a0).wf = true) (w : World) :
    Calls Try.prog 3 #[.float .f64 a0] w fun e w' => e = .returned (.bool true) ∧ Below w.heap.size w w' := by
  by_cases h : (geB a0 (negB 4741671816366391296) && leB a0 4741671816366391296) = true
  · obtain ⟨x0, z0, r0, r1, r2, t0, t, d0, d1, d2, e0, e2, h1, h2, h3, h4, h5, h6, h7, h8, h9, h10, h11, h12, h13, h14, h15⟩ := d65_plain a0 (wf_lt w0) h
    exact law_yes a0 x0 z0 r0 r1 r2 t0 t d0 d1 d2 e0 e2 w h h1 h2 h3 h4 h5 h6 h7 h8 h9 h10 h11 h12 h13 h14 h15
  · exact law_no a0 w (by simpa using h)
-- theorem walk (a0 : Nat) (w0 : (Lit.float .f64 a0).wf = true) (w : World) :
--    Calls Try.prog 3 #[.float .f64 a0] w fun e w' => e = .returned (.bool true) ∧ Below w.heap.size w w'
theorem own : ownKnob Try.prog.godebug = none := by kernel_rfl
set_option maxRecDepth 100000 in
theorem lifted (os : Os) (started : os.Started) (H : Type) (enc : TypeId × Value → H) :
    ReturnsInHanded {} Try.checked os 3 .any (Rows.fnD65ToD50MapsWhiteToWhiteSpec.pre6 enc Try.prog Try.f3 Rows.fnD65ToD50MapsWhiteToWhiteRow.domain false) (Rows.fnD65ToD50MapsWhiteToWhiteSpec.post enc Try.prog Try.f3 false true false false) := by
  refine returnsInHanded_of_change (C := Try.checked) own started (by kernel_rfl) Try.func3
    (ChangeSpec.witness6 (enc := enc) (C := Try.checked) false ⟨#[], #[.float .f64 0], []⟩ 8 (by kernel_rfl) (by kernel_rfl) (by kernel_rfl) (by kernel_rfl)) ?_
  intro W base args ds gs before hval0 hW hcnd _
  have hval : ∀ (j : Nat) t v, Try.f3.params[j]? = some t → args[j]? = some v → Value.okWide Try.prog W .any base t v := hval0
  have hW' := hW
  obtain ⟨p, q, hA0, hV, rfl, hfz, hnd⟩ := hW
  have hA : DataW.TrodAll enc Try.prog W 0 (fun _ => true) true Try.f3.params.toList args.toList ds p := hA0
  rw [Try.params3] at hA hval
  obtain ⟨v0, vs0, d0, ds0, p0, q0, hargs, rfl, rfl, h0, r0⟩ := trodAll_cons hA
  obtain ⟨rfl, rfl, rfl⟩ := trodAll_nil r0
  obtain rfl : args = #[v0] := by cases args; simp_all
  obtain ⟨rfl, rfl⟩ := trodVars_none hV
  obtain ⟨a0, rfl, rfl, rfl, w0⟩ := open_float Try.underlying22 (hval 0 22 v0 rfl rfl) h0
  clear hA0 hval0
  simp only [List.append_nil] at hW'
  refine (walk a0 w0 W).mono fun e W' ⟨he, bel⟩ => ?_
  subst he
  exact ⟨_, rfl, _, _, _, [], [], [], hW', trodAll_mk1 (shut_bool Try.underlying4 _), (trodAll_cons_mk (shut_float Try.underlying22 w0) trodAll_mk0), rfl, bel.frame _, fun h => by cases h⟩

theorem over : Rows.fnD65ToD50MapsWhiteToWhiteRow.holds Try.pinned (OpenSpec.ofChange Rows.fnD65ToD50MapsWhiteToWhiteSpec) :=
  OpenClaim.holds_of_wide 3 Try.f3 rfl rfl rfl rfl rfl rfl rfl ⟨rfl, rfl, rfl, rfl, rfl⟩ rfl rfl rfl rfl rfl (by kernel_rfl) Try.func3 (by kernel_rfl)
    (of_decide_eq_true (by kernel_rfl)) (by unfold Func.isWrapper; first | (rw [if_pos (by decide +kernel)]; kernel_rfl) | (rw [if_neg (by decide +kernel)]; exact ⟨rfl, rfl⟩))
    (fun os started H enc _ => lifted os started H enc)

theorem proved : Rows.FnD65ToD50MapsWhiteToWhiteSaid :=
  over
#print axioms proved
end Go.Proofs.Ytgflhgjigfpgiaa.fnD65ToD50MapsWhiteToWhite

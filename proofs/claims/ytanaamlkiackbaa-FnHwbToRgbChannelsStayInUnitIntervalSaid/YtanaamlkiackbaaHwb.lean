/- FnHwbToRgbChannelsStayInUnitInterval returns true at every triple of float64 (no condition). -/
import Derived.Test.YtanaamlkiackbaaHp
import Derived.Outline
import Derived.ShutString
namespace Go.Proofs.Ytanaamlkiackbaa.fnHwbToRgbChannelsStayInUnitInterval
open Go.ChangeShapes Go.WideShapes Go.ChangeAt Go.RowKit Go.Sort
open Go.ChangeMaps (open_string shut_string)
open Flt Ieee Hp
set_option linter.unusedVariables false
set_option linter.unusedSimpArgs false
theorem b2 (x : Bool) : x = true ∨ x = false := by cases x <;> simp
theorem finT_c (x : Nat) (w : World) (hx : fin x) : Calls Try.prog 11 #[.float .f64 x] w fun e w' => e = .returned (.bool true) ∧ w = w' := by
  have k := fun w => run_float_arith (P := Try.prog) w .sub 22 .f64 _ _ _ (sub_self' hx)
  have e1 : (FloatKind.f64.format.order x x == some .eq) = true := eqB_self hx
  have e2 : (FloatKind.f64.format.order 0 0 == some .eq) = true := eqB_self zero_fin.1
  clear hx
  go_enter Try.func11, Try.ntmps11
  go_wp2
  go_ret
  exact ⟨rfl, rfl⟩
theorem sub_nonfin {x : Nat} (hx : ¬ fin x) : floatBits .sub .f64 x x = none := by
  by_cases hn : isNan x
  · obtain ⟨s, f, e⟩ := hn
    show ((F.read x).sum (F.read x).opposite).map F.write = none
    rw [e]; rfl
  · exact sub_inf hx hn
theorem finF_c (x : Nat) (w : World) (hx : ¬ fin x) : Calls Try.prog 11 #[.float .f64 x] w fun e w' => e = .returned (.bool false) ∧ Below w.heap.size w w' := by
  obtain ⟨r, hr, hnan, -⟩ := nan_run (P := Try.prog) w .sub 22 x x (by simp) (sub_nonfin hx)
  have e2 : (FloatKind.f64.format.order r 0 == some .eq) = false := nan_eqB hnan
  clear hx hnan
  rcases b2 (FloatKind.f64.format.order x x == some .eq) with e1 | e1
  · go_enter Try.func11, Try.ntmps11
    go_wp2
    go_ret
    exact ⟨rfl, ⟨rfl, rfl, rfl, Nat.le_refl _, fun _ _ => rfl⟩⟩
  · go_enter Try.func11, Try.ntmps11
    go_wp2
    go_ret
    exact ⟨rfl, Below.refl _ _⟩
def In (r : Nat) : Prop := fin r ∧ 0 ≤ val r ∧ val r ≤ 1
theorem ltB_false {x y : Nat} (hx : fin x) (hy : fin y) (h : ltB x y = false) : val y ≤ val x := by
  have := ltB_iff hx hy
  rw [h] at this
  grind
theorem in01_c (x : Nat) (w : World) (hx : In x) : Calls Try.prog 13 #[.float .f64 x] w fun e w' => e = .returned (.bool true) ∧ w = w' := by
  have e1 : (FloatKind.f64.format.order x 0 == some .gt || FloatKind.f64.format.order x 0 == some .eq) = true := (geB_iff hx.1 k0.1).2 (by rw [k0.2]; exact hx.2.1)
  have e2 : (FloatKind.f64.format.order x 4607182418800017408 == some .lt || FloatKind.f64.format.order x 4607182418800017408 == some .eq) = true := (leB_iff hx.1 k1.1).2 (by rw [k1.2]; exact hx.2.2)
  clear hx
  go_enter Try.func13, Try.ntmps13
  go_wp2
  go_ret
  exact ⟨rfl, rfl⟩
set_option maxRecDepth 100000 in
set_option maxHeartbeats 1000000 in
theorem law_nf (x wh bl : Nat) (w : World) (h : ¬ (fin x ∧ fin wh ∧ fin bl)) : Calls Try.prog 5 #[.float .f64 x, .float .f64 wh, .float .f64 bl] w fun e w' => e = .returned (.bool true) ∧ Below w.heap.size w w' := by
  by_cases g1 : fin x
  · by_cases g2 : fin wh
    · have g4 : ¬ fin bl := fun c => h ⟨g1, g2, c⟩
      clear h
      go_enter Try.func5, Try.ntmps5
      go_wp2_with (first | (go_at_call 11; refine (finT_c _ _ ‹fin _›).mono ?_; rintro e w' ⟨rfl, rfl⟩) | (go_at_call 11; refine (finF_c _ _ ‹¬ fin _›).mono ?_; rintro e w' ⟨rfl, hb⟩))
      go_ret
      exact ⟨rfl, hb⟩
    · clear h
      go_enter Try.func5, Try.ntmps5
      go_wp2_with (first | (go_at_call 11; refine (finT_c _ _ ‹fin _›).mono ?_; rintro e w' ⟨rfl, rfl⟩) | (go_at_call 11; refine (finF_c _ _ ‹¬ fin _›).mono ?_; rintro e w' ⟨rfl, hb⟩))
      go_ret
      exact ⟨rfl, hb⟩
  · clear h
    go_enter Try.func5, Try.ntmps5
    go_wp2_with (first | (go_at_call 11; refine (finT_c _ _ ‹fin _›).mono ?_; rintro e w' ⟨rfl, rfl⟩) | (go_at_call 11; refine (finF_c _ _ ‹¬ fin _›).mono ?_; rintro e w' ⟨rfl, hb⟩))
    go_ret
    exact ⟨rfl, hb⟩
set_option maxRecDepth 100000 in
set_option maxHeartbeats 1000000 in
theorem law_neg (x wh bl : Nat) (w : World) (g1 : fin x) (g2 : fin wh) (g3 : fin bl) (h : ltB wh 0 = true ∨ ltB bl 0 = true) : Calls Try.prog 5 #[.float .f64 x, .float .f64 wh, .float .f64 bl] w fun e w' => e = .returned (.bool true) ∧ Below w.heap.size w w' := by
  rcases b2 (ltB wh 0) with h1 | h1
  · have e1 : (FloatKind.f64.format.order wh 0 == some .lt) = true := h1
    clear h h1
    go_enter Try.func5, Try.ntmps5
    go_wp2_with (first | (go_at_call 11; refine (finT_c _ _ ‹fin _›).mono ?_; rintro e w' ⟨rfl, rfl⟩))
    go_ret
    exact ⟨rfl, Below.refl _ _⟩
  · have h2 : ltB bl 0 = true := by rcases h with h | h; · rw [h1] at h; cases h
                                    · exact h
    have e1 : (FloatKind.f64.format.order wh 0 == some .lt) = false := h1
    have e2 : (FloatKind.f64.format.order bl 0 == some .lt) = true := h2
    clear h h1 h2
    go_enter Try.func5, Try.ntmps5
    go_wp2_with (first | (go_at_call 11; refine (finT_c _ _ ‹fin _›).mono ?_; rintro e w' ⟨rfl, rfl⟩))
    go_ret
    exact ⟨rfl, Below.refl _ _⟩
set_option maxRecDepth 100000 in
set_option maxHeartbeats 1000000 in
theorem law_gray (x wh bl a b s r : Nat) (w : World) (g1 : fin x) (g2 : fin wh) (g3 : fin bl) (h1 : ltB wh 0 = false) (h2 : ltB bl 0 = false)
    (F1 : floatBits .quo .f64 wh 4636737291354636288 = some a) (F2 : floatBits .quo .f64 bl 4636737291354636288 = some b) (F3 : floatBits .add .f64 a b = some s) (F4 : ltB s 4607182418800017408 = false)
    (Z : ∀ w : World, Calls Try.prog 23 #[fl x, fl wh, fl bl] w fun e w' => e = .returned (.tuple #[fl r, fl r, fl r]) ∧ Below w.heap.size w w') (R : In r) : Calls Try.prog 5 #[.float .f64 x, .float .f64 wh, .float .f64 bl] w fun e w' => e = .returned (.bool true) ∧ Below w.heap.size w w' := by
  have e1 : (FloatKind.f64.format.order wh 0 == some .lt) = false := h1
  have e2 : (FloatKind.f64.format.order bl 0 == some .lt) = false := h2
  have e3 : (FloatKind.f64.format.order s 4607182418800017408 == some .lt) = false := F4
  have e4 : (FloatKind.f64.format.order r r == some .eq) = true := eqB_self R.1
  have k1 := fun w => run_float_arith (P := Try.prog) w .quo 22 .f64 _ _ _ F1
  have k2 := fun w => run_float_arith (P := Try.prog) w .quo 22 .f64 _ _ _ F2
  have k3 := fun w => run_float_arith (P := Try.prog) w .add 22 .f64 _ _ _ F3
  have ZZ := Lib.hid (zz_hwb x wh bl r r r w Z)
  have RR := Lib.hid R
  clear F1 F2 F3 F4 h1 h2 Z R
  go_enter Try.func5, Try.ntmps5
  go_wp2_with (first | (go_at_call 11; refine (finT_c _ _ ‹fin _›).mono ?_; rintro e w' ⟨rfl, rfl⟩) | (go_at_call 12; (with_reducible refine ZZ.out.mono ?_); rintro e w' ⟨rfl, hb⟩) | (go_at_call 13; refine (in01_c _ _ RR.out).mono ?_; rintro e w2 ⟨rfl, rfl⟩))
  go_ret
  exact ⟨rfl, hb⟩
set_option maxRecDepth 100000 in
set_option maxHeartbeats 1000000 in
theorem law_mix (x wh bl a b s u0 u8 u4 : Nat) (w : World) (g1 : fin x) (g2 : fin wh) (g3 : fin bl) (h1 : ltB wh 0 = false) (h2 : ltB bl 0 = false)
    (F1 : floatBits .quo .f64 wh 4636737291354636288 = some a) (F2 : floatBits .quo .f64 bl 4636737291354636288 = some b) (F3 : floatBits .add .f64 a b = some s) (F4 : ltB s 4607182418800017408 = true) (fa : fin a)
    (Z : ∀ w : World, Calls Try.prog 23 #[fl x, fl wh, fl bl] w fun e w' => e = .returned (.tuple #[fl u0, fl u8, fl u4]) ∧ Below w.heap.size w w') (R0 : In u0 ∧ val a ≤ val u0) (R8 : In u8 ∧ val a ≤ val u8) (R4 : In u4 ∧ val a ≤ val u4) : Calls Try.prog 5 #[.float .f64 x, .float .f64 wh, .float .f64 bl] w fun e w' => e = .returned (.bool true) ∧ Below w.heap.size w w' := by
  have e1 : (FloatKind.f64.format.order wh 0 == some .lt) = false := h1
  have e2 : (FloatKind.f64.format.order bl 0 == some .lt) = false := h2
  have e3 : (FloatKind.f64.format.order s 4607182418800017408 == some .lt) = true := F4
  have e4 : (FloatKind.f64.format.order u0 a == some .gt || FloatKind.f64.format.order u0 a == some .eq) = true := (geB_iff R0.1.1 fa).2 R0.2
  have e5 : (FloatKind.f64.format.order u8 a == some .gt || FloatKind.f64.format.order u8 a == some .eq) = true := (geB_iff R8.1.1 fa).2 R8.2
  have e6 : (FloatKind.f64.format.order u4 a == some .gt || FloatKind.f64.format.order u4 a == some .eq) = true := (geB_iff R4.1.1 fa).2 R4.2
  have k1 := fun w => run_float_arith (P := Try.prog) w .quo 22 .f64 _ _ _ F1
  have k2 := fun w => run_float_arith (P := Try.prog) w .quo 22 .f64 _ _ _ F2
  have k3 := fun w => run_float_arith (P := Try.prog) w .add 22 .f64 _ _ _ F3
  have ZZ := Lib.hid (zz_hwb x wh bl u0 u8 u4 w Z)
  have I0 := Lib.hid R0.1; have I8 := Lib.hid R8.1; have I4 := Lib.hid R4.1
  clear F1 F2 F3 F4 h1 h2 Z R0 R8 R4 fa
  go_enter Try.func5, Try.ntmps5
  go_wp2_with (first | (go_at_call 11; refine (finT_c _ _ ‹fin _›).mono ?_; rintro e w' ⟨rfl, rfl⟩) | (go_at_call 12; (with_reducible refine ZZ.out.mono ?_); rintro e w' ⟨rfl, hb⟩) | (go_at_call 13; (with_reducible refine (in01_c _ _ I0.out).mono ?_); rintro e w2 ⟨rfl, rfl⟩) | (go_at_call 13; (with_reducible refine (in01_c _ _ I8.out).mono ?_); rintro e w2 ⟨rfl, rfl⟩) | (go_at_call 13; (with_reducible refine (in01_c _ _ I4.out).mono ?_); rintro e w2 ⟨rfl, rfl⟩))
  go_ret
  exact ⟨rfl, hb⟩
theorem walk (a0 : Nat) (a1 : Nat) (a2 : Nat) (w0 : (Lit.float .f64 a0).wf = true) (w1 : (Lit.float .f64 a1).wf = true) (w2 : (Lit.float .f64 a2).wf = true) (w : World) :
    Calls Try.prog 5 #[.float .f64 a0, .float .f64 a1, .float .f64 a2] w fun e w' => e = .returned (.bool true) ∧ Below w.heap.size w w' := by
  by_cases hf : fin a0 ∧ fin a1 ∧ fin a2
  · obtain ⟨g1, g2, g3⟩ := hf
    by_cases hn : ltB a1 0 = true ∨ ltB a2 0 = true
    · exact law_neg a0 a1 a2 w g1 g2 g3 hn
    · have h1 : ltB a1 0 = false := by cases e : ltB a1 0 with | false => rfl | true => exact (hn (Or.inl e)).elim
      have h2 : ltB a2 0 = false := by cases e : ltB a2 0 with | false => rfl | true => exact (hn (Or.inr e)).elim
      have p1 : 0 ≤ val a1 := by have := ltB_false g2 k0.1 h1; rw [k0.2] at this; exact this
      have p2 : 0 ≤ val a2 := by have := ltB_false g3 k0.1 h2; rw [k0.2] at this; exact this
      obtain ⟨a, F1, fa, z1, y1⟩ := Hp.part g2 p1
      obtain ⟨b, F2, fb, z2, y2⟩ := Hp.part g3 p2
      obtain ⟨s, F3, fs, has, s0⟩ := Hp.whole fa fb z1 z2 y1 y2
      cases hl : ltB s 4607182418800017408 with
      | false =>
        have hs : 1 ≤ val s := by have := ltB_false fs k1.1 hl; rw [k1.2] at this; exact this
        have hg : geB s 4607182418800017408 = true := (geB_iff fs k1.1).2 (by rw [k1.2]; exact hs)
        obtain ⟨r, F5, R⟩ := Hp.gray fa fs z1 has hs
        exact law_gray a0 a1 a2 a b s r w g1 g2 g3 h1 h2 F1 F2 F3 hl (fun w => hwb_gray a0 a1 a2 a b s r w F1 F2 F3 hg F5) R
      | true =>
        have hs : val s < 1 := by have := (ltB_iff fs k1.1).1 hl; rw [k1.2] at this; exact this
        have hg : geB s 4607182418800017408 = false := by
          cases e : geB s 4607182418800017408 with
          | false => rfl
          | true => have := (geB_iff fs k1.1).1 e; rw [k1.2] at this; grind
        obtain ⟨d, F5, fd, d0, d1, hds⟩ := Hp.rest (bits_lt F3) fs s0 hs
        obtain ⟨r0, r8, r4, F6, ⟨fr0, x0, y0⟩, ⟨fr8, x8, y8⟩, ⟨fr4, x4, y4⟩⟩ := Hp.hsl_mid g1
        obtain ⟨m0, u0, F7, F10, fu0, v0, t0⟩ := Hp.mixed fa fd fr0 z1 has d0 d1 hds x0 y0
        obtain ⟨m8, u8, F8, F11, fu8, v8, t8⟩ := Hp.mixed fa fd fr8 z1 has d0 d1 hds x8 y8
        obtain ⟨m4, u4, F9, F12, fu4, v4, t4⟩ := Hp.mixed fa fd fr4 z1 has d0 d1 hds x4 y4
        exact law_mix a0 a1 a2 a b s u0 u8 u4 w g1 g2 g3 h1 h2 F1 F2 F3 hl fa (fun w => hwb_mix a0 a1 a2 a b s d r0 r8 r4 m0 m8 m4 u0 u8 u4 w F1 F2 F3 hg F5 F6 F7 F8 F9 F10 F11 F12)
          ⟨⟨fu0, by grind, t0⟩, v0⟩ ⟨⟨fu8, by grind, t8⟩, v8⟩ ⟨⟨fu4, by grind, t4⟩, v4⟩
  · exact law_nf a0 a1 a2 w hf
-- theorem walk (a0 : Nat) (a1 : Nat) (a2 : Nat) (w0 : (Lit.float .f64 a0).wf = true) (w1 : (Lit.float .f64 a1).wf = true) (w2 : (Lit.float .f64 a2).wf = true) (w : World) :
--    Calls Try.prog 5 #[.float .f64 a0, .float .f64 a1, .float .f64 a2] w fun e w' => e = .returned (.bool true) ∧ Below w.heap.size w w'
theorem own : ownKnob Try.prog.godebug = none := by kernel_rfl
set_option maxRecDepth 100000 in
theorem lifted (os : Os) (started : os.Started) (H : Type) (enc : TypeId × Value → H) :
    ReturnsInHanded {} Try.checked os 5 .any (Rows.fnHwbToRgbChannelsStayInUnitIntervalSpec.pre6 enc Try.prog Try.f5 Rows.fnHwbToRgbChannelsStayInUnitIntervalRow.domain false) (Rows.fnHwbToRgbChannelsStayInUnitIntervalSpec.post enc Try.prog Try.f5 false true false false) := by
  refine returnsInHanded_of_change (C := Try.checked) own started (by kernel_rfl) Try.func5
    (ChangeSpec.witness6 (enc := enc) (C := Try.checked) false ⟨#[], #[.float .f64 0, .float .f64 0, .float .f64 0], []⟩ 8 (by kernel_rfl) (by kernel_rfl) (by kernel_rfl) (by kernel_rfl)) ?_
  intro W base args ds gs before hval0 hW hcnd _
  have hval : ∀ (j : Nat) t v, Try.f5.params[j]? = some t → args[j]? = some v → Value.okWide Try.prog W .any base t v := hval0
  have hW' := hW
  obtain ⟨p, q, hA0, hV, rfl, hfz, hnd⟩ := hW
  have hA : DataW.TrodAll enc Try.prog W 0 (fun _ => true) true Try.f5.params.toList args.toList ds p := hA0
  rw [Try.params5] at hA hval
  obtain ⟨v0, vs0, d0, ds0, p0, q0, hargs, rfl, rfl, h0, r0⟩ := trodAll_cons hA
  obtain ⟨v1, vs1, d1, ds1, p1, q1, rfl, rfl, rfl, h1, r1⟩ := trodAll_cons r0
  obtain ⟨v2, vs2, d2, ds2, p2, q2, rfl, rfl, rfl, h2, r2⟩ := trodAll_cons r1
  obtain ⟨rfl, rfl, rfl⟩ := trodAll_nil r2
  obtain rfl : args = #[v0, v1, v2] := by cases args; simp_all
  obtain ⟨rfl, rfl⟩ := trodVars_none hV
  obtain ⟨a0, rfl, rfl, rfl, w0⟩ := open_float Try.underlying22 (hval 0 22 v0 rfl rfl) h0
  obtain ⟨a1, rfl, rfl, rfl, w1⟩ := open_float Try.underlying22 (hval 1 22 v1 rfl rfl) h1
  obtain ⟨a2, rfl, rfl, rfl, w2⟩ := open_float Try.underlying22 (hval 2 22 v2 rfl rfl) h2
  clear hA0 hval0
  simp only [List.append_nil] at hW'
  refine (walk a0 a1 a2 w0 w1 w2 W).mono fun e W' ⟨he, bel⟩ => ?_
  subst he
  exact ⟨_, rfl, _, _, _, [], [], [], hW', trodAll_mk1 (shut_bool Try.underlying4 _), (trodAll_cons_mk (shut_float Try.underlying22 w0) (trodAll_cons_mk (shut_float Try.underlying22 w1) (trodAll_cons_mk (shut_float Try.underlying22 w2) trodAll_mk0))), rfl, bel.frame _, fun h => by cases h⟩

theorem over : Rows.fnHwbToRgbChannelsStayInUnitIntervalRow.holds Try.pinned (OpenSpec.ofChange Rows.fnHwbToRgbChannelsStayInUnitIntervalSpec) :=
  OpenClaim.holds_of_wide 5 Try.f5 rfl rfl rfl rfl rfl rfl rfl ⟨rfl, rfl, rfl, rfl, rfl⟩ rfl rfl rfl rfl rfl (by kernel_rfl) Try.func5 (by kernel_rfl)
    (of_decide_eq_true (by kernel_rfl)) (by unfold Func.isWrapper; first | (rw [if_pos (by decide +kernel)]; kernel_rfl) | (rw [if_neg (by decide +kernel)]; exact ⟨rfl, rfl⟩))
    (fun os started H enc _ => lifted os started H enc)

theorem proved : Rows.FnHwbToRgbChannelsStayInUnitIntervalSaid :=
  over
#print axioms proved
end Go.Proofs.Ytanaamlkiackbaa.fnHwbToRgbChannelsStayInUnitInterval

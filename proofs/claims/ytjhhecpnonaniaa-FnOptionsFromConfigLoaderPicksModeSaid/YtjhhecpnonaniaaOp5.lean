/-
FnOptionsFromConfigLoaderPicksMode: for any loader and any configuration the options made are Equal to those of LoaderCSS, LoaderGlobalCSS or LoaderLocalCSS exactly by the loader's class, and those three are pairwise unequal. Conditions: none.
-/
import Derived.Test.YtjhhecpnonaniaaOp4
set_option linter.unusedVariables false
set_option linter.unusedSimpArgs false
namespace Go.Proofs.Ytjhhecpnonaniaa.fnOptionsFromConfigLoaderPicksMode
open Go.ChangeShapes Go.WideShapes Go.ChangeAt Go.RowKit
open Go.ChangeMaps (open_string shut_string)
theorem stored {W : World} (m : Option Nat) (b1 b2 b3 : Bool) (ft : Int) (s : ByteArray) (k : Int) : OAt (W.alloc (.cells #[.map m, .string s, .int .u16 ft, .bool b1, .bool b2, .bool b3, .int .u8 k] 34)) W.heap.size m b1 b2 b3 ft s k ∧ Below W.heap.size W (W.alloc (.cells #[.map m, .string s, .int .u16 ft, .bool b1, .bool b2, .bool b3, .int .u8 k] 34)) :=
  ⟨⟨by simp [go_sem], by simp [go_sem], by simp [go_sem], by simp [go_sem], by simp [go_sem], by simp [go_sem], by simp [go_sem]⟩, ba W _⟩
theorem md3 (l : Int) : md l = 0 ∨ md l = 1 ∨ md l = 2 := by
  unfold md; split
  · exact Or.inr (Or.inl rfl)
  · split
    · exact Or.inr (Or.inr rfl)
    · exact Or.inl rfl
set_option maxRecDepth 100000 in
set_option maxHeartbeats 2000000 in
theorem walk (a0 : Int) (a1 : Int) (a2 : Int) (a3 : ByteArray) (a4 : Option Addr) (n4 : Nat) (c4 : Nat) (f4 : Nat → Int) (a5 : Option Addr) (n5 : Nat) (c5 : Nat) (f5 : Nat → Int) (w : World) (w0 : (Lit.int .u8 a0).wf = true) (w1 : (Lit.int .u8 a1).wf = true) (w2 : (Lit.int .u16 a2).wf = true) (w3 : a3.size ≤ maxLen) (w4 : ArgI .u16 w a4 n4 c4 f4) (w5 : ArgI .u8 w a5 n5 c5 f5) :
    Calls Try.prog 3 #[.int .u8 a0, .int .u8 a1, .int .u16 a2, .string a3, .slice a4 n4 c4, .slice a5 n5 c5] w fun e w' => e = .returned (.bool true) ∧ Below w.heap.size w w' := by
  have C4 := Lib.hid (bytes4_c a0 a1 a2 a3 a4 a5 n4 c4 n5 c5 w w3 (Nat.le_trans w4.le w4.max) (Nat.le_trans w5.le w5.max))
  have R4 := Lib.hid w4; have R5 := Lib.hid w5
  clear w0 w1 w2 w3 w4 w5
  have H7 := fun W => class7_c a0 W
  have hmd : ∀ W, Calls Try.prog 7 #[.int .u8 a0] W fun e w' => e = .returned (.int .i64 (md a0)) ∧ W = w' := H7
  have C7 := Lib.hid hmd
  clear H7 hmd
  go_enter Try.func3, Try.ntmps3
  go_upto_region 3 with (go_at_call 4; (with_reducible refine C4.out.mono ?_); rintro e w1 ⟨x, rfl, hx, rfl⟩; cases x)
  any_goals (go_ret; exact ⟨rfl, Below.refl _ _⟩)
  obtain ⟨l3, l4, l5⟩ := hx (by simp)
  clear hx C4
  have C5 := Lib.hid (conf5_c a1 a2 a3 a4 a5 n4 c4 n5 c5 w (prefix9_c a4 a5 n4 c4 n5 c5 f4 f5 w l4 l5 R4.out.row R5.out.row R4.out.wf R5.out.wf))
  by_cases hbig : 1048576 < (a3.size : Int) + 2 * (n4 : Int) + (n5 : Int)
  · go_wp2_with fail
    go_ret
    exact ⟨rfl, Below.refl _ _⟩
  go_upto_region 6 with (go_at_call 5; (with_reducible refine C5.out.mono ?_); rintro e w1 ⟨b, m, b1, b2, b3, rfl, cf, hb, hm⟩; replace cf := Lib.hid cf; replace hb := Lib.hid hb; replace hm : Hid (MpO w1 m) := Lib.hid hm)
  clear hbig l3 l4 l5 R4 R5 C5
  have C6 : Hid (Calls Try.prog 6 #[.int .u8 a0, .pointer (some ⟨b, 0, none⟩)] w1 (OptB m b1 b2 b3 a2 a3 (md a0) w1)) := Lib.hid (opt6_c a0 b m b1 b2 b3 a2 a3 w1 cf.out)
  go_upto_region 7 with (go_at_call 6; (with_reducible refine C6.out.mono ?_); rintro e w2 ⟨rfl, hb2⟩; replace hb := Lib.hid (hb.out.trans (hb2.mono hb.out.size)); replace cf := Lib.hid (cf.out.after hb2); replace hm := Lib.hid (hm.out.after hb2); clear hb2)
  clear C6
  refine wp_gen (fun W3 hW => ?_)
  have st : Hid (OAt W3 w2.heap.size m b1 b2 b3 a2 a3 (md a0) ∧ Below w2.heap.size w2 W3) := Lib.hid (by rw [hW]; exact stored m b1 b2 b3 a2 a3 (md a0))
  clear hW
  replace hb := Lib.hid (hb.out.trans (st.out.2.mono hb.out.size)); replace cf := Lib.hid (cf.out.after st.out.2); replace hm := Lib.hid (hm.out.after st.out.2)
  have o0 := Lib.hid st.out.1
  clear st
  have C6 : Hid (Calls Try.prog 6 #[.int .u8 4, .pointer (some ⟨b, 0, none⟩)] W3 (OptB m b1 b2 b3 a2 a3 0 W3)) := Lib.hid (opt6_c 4 b m b1 b2 b3 a2 a3 W3 cf.out)
  go_upto_region 8 with (go_at_call 6; (with_reducible refine C6.out.mono ?_); rintro e w4 ⟨rfl, hb2⟩; replace hb := Lib.hid (hb.out.trans (hb2.mono hb.out.size)); replace cf := Lib.hid (cf.out.after hb2); replace hm := Lib.hid (hm.out.after hb2); replace o0 := Lib.hid (o0.out.after hb2); clear hb2)
  clear C6
  refine wp_gen (fun W5 hW => ?_)
  have st : Hid (OAt W5 w4.heap.size m b1 b2 b3 a2 a3 0 ∧ Below w4.heap.size w4 W5) := Lib.hid (by rw [hW]; exact stored m b1 b2 b3 a2 a3 0)
  clear hW
  replace hb := Lib.hid (hb.out.trans (st.out.2.mono hb.out.size)); replace cf := Lib.hid (cf.out.after st.out.2); replace hm := Lib.hid (hm.out.after st.out.2)
  replace o0 := Lib.hid (o0.out.after st.out.2)
  have o1 := Lib.hid st.out.1
  clear st
  have C6 : Hid (Calls Try.prog 6 #[.int .u8 9, .pointer (some ⟨b, 0, none⟩)] W5 (OptB m b1 b2 b3 a2 a3 1 W5)) := Lib.hid (opt6_c 9 b m b1 b2 b3 a2 a3 W5 cf.out)
  go_upto_region 9 with (go_at_call 6; (with_reducible refine C6.out.mono ?_); rintro e w6 ⟨rfl, hb2⟩; replace hb := Lib.hid (hb.out.trans (hb2.mono hb.out.size)); replace cf := Lib.hid (cf.out.after hb2); replace hm := Lib.hid (hm.out.after hb2); replace o0 := Lib.hid (o0.out.after hb2); replace o1 := Lib.hid (o1.out.after hb2); clear hb2)
  clear C6
  refine wp_gen (fun W7 hW => ?_)
  have st : Hid (OAt W7 w6.heap.size m b1 b2 b3 a2 a3 1 ∧ Below w6.heap.size w6 W7) := Lib.hid (by rw [hW]; exact stored m b1 b2 b3 a2 a3 1)
  clear hW
  replace hb := Lib.hid (hb.out.trans (st.out.2.mono hb.out.size)); replace cf := Lib.hid (cf.out.after st.out.2); replace hm := Lib.hid (hm.out.after st.out.2)
  replace o0 := Lib.hid (o0.out.after st.out.2)
  replace o1 := Lib.hid (o1.out.after st.out.2)
  have o2 := Lib.hid st.out.1
  clear st
  have C6 : Hid (Calls Try.prog 6 #[.int .u8 14, .pointer (some ⟨b, 0, none⟩)] W7 (OptB m b1 b2 b3 a2 a3 2 W7)) := Lib.hid (opt6_c 14 b m b1 b2 b3 a2 a3 W7 cf.out)
  go_upto_region 10 with (go_at_call 6; (with_reducible refine C6.out.mono ?_); rintro e w8 ⟨rfl, hb2⟩; replace hb := Lib.hid (hb.out.trans (hb2.mono hb.out.size)); replace cf := Lib.hid (cf.out.after hb2); replace hm := Lib.hid (hm.out.after hb2); replace o0 := Lib.hid (o0.out.after hb2); replace o1 := Lib.hid (o1.out.after hb2); replace o2 := Lib.hid (o2.out.after hb2); clear hb2)
  clear C6
  refine wp_gen (fun W9 hW => ?_)
  have st : Hid (OAt W9 w8.heap.size m b1 b2 b3 a2 a3 2 ∧ Below w8.heap.size w8 W9) := Lib.hid (by rw [hW]; exact stored m b1 b2 b3 a2 a3 2)
  clear hW
  replace hb := Lib.hid (hb.out.trans (st.out.2.mono hb.out.size)); replace cf := Lib.hid (cf.out.after st.out.2); replace hm := Lib.hid (hm.out.after st.out.2)
  replace o0 := Lib.hid (o0.out.after st.out.2)
  replace o1 := Lib.hid (o1.out.after st.out.2)
  replace o2 := Lib.hid (o2.out.after st.out.2)
  have o3 := Lib.hid st.out.1
  clear st
  go_upto_region 11 with (go_at_call 7; (with_reducible refine (C7.out _).mono ?_); rintro e w10 ⟨rfl, rfl⟩)
  clear cf C7
  have hx := md3 a0
  generalize md a0 = c at o0 hx ⊢
  have hz := hb.out.size
  replace hb := hb.out
  have hc := Lib.hid (Below.refl W9.heap.size W9)
  have e1 : ((0 : Int) == 1) = false := rfl
  have e2 : ((0 : Int) == 2) = false := rfl
  have e3 : ((1 : Int) == 2) = false := rfl
  rcases hx with rfl | rfl | rfl
  · go_wp2_with (go_at_call 8; (first | (with_reducible refine (eq8_c w2.heap.size w4.heap.size m b1 b2 b3 a2 a3 0 0 _ (hm.out.after hc.out) (o0.out.after hc.out) (o1.out.after hc.out)).mono ?_) | (with_reducible refine (eq8_c w2.heap.size w6.heap.size m b1 b2 b3 a2 a3 0 1 _ (hm.out.after hc.out) (o0.out.after hc.out) (o2.out.after hc.out)).mono ?_) | (with_reducible refine (eq8_c w2.heap.size w8.heap.size m b1 b2 b3 a2 a3 0 2 _ (hm.out.after hc.out) (o0.out.after hc.out) (o3.out.after hc.out)).mono ?_) | (with_reducible refine (eq8_c w4.heap.size w6.heap.size m b1 b2 b3 a2 a3 0 1 _ (hm.out.after hc.out) (o1.out.after hc.out) (o2.out.after hc.out)).mono ?_) | (with_reducible refine (eq8_c w4.heap.size w8.heap.size m b1 b2 b3 a2 a3 0 2 _ (hm.out.after hc.out) (o1.out.after hc.out) (o3.out.after hc.out)).mono ?_) | (with_reducible refine (eq8_c w6.heap.size w8.heap.size m b1 b2 b3 a2 a3 1 2 _ (hm.out.after hc.out) (o2.out.after hc.out) (o3.out.after hc.out)).mono ?_)); rintro e w12 ⟨rfl, hd⟩; replace hc := Lib.hid (hc.out.trans (hd.mono hc.out.size)); clear hd)
    go_ret
    exact ⟨rfl, hb.trans (hc.out.mono hz)⟩
  · go_wp2_with (go_at_call 8; (first | (with_reducible refine (eq8_c w2.heap.size w4.heap.size m b1 b2 b3 a2 a3 1 0 _ (hm.out.after hc.out) (o0.out.after hc.out) (o1.out.after hc.out)).mono ?_) | (with_reducible refine (eq8_c w2.heap.size w6.heap.size m b1 b2 b3 a2 a3 1 1 _ (hm.out.after hc.out) (o0.out.after hc.out) (o2.out.after hc.out)).mono ?_) | (with_reducible refine (eq8_c w2.heap.size w8.heap.size m b1 b2 b3 a2 a3 1 2 _ (hm.out.after hc.out) (o0.out.after hc.out) (o3.out.after hc.out)).mono ?_) | (with_reducible refine (eq8_c w4.heap.size w6.heap.size m b1 b2 b3 a2 a3 0 1 _ (hm.out.after hc.out) (o1.out.after hc.out) (o2.out.after hc.out)).mono ?_) | (with_reducible refine (eq8_c w4.heap.size w8.heap.size m b1 b2 b3 a2 a3 0 2 _ (hm.out.after hc.out) (o1.out.after hc.out) (o3.out.after hc.out)).mono ?_) | (with_reducible refine (eq8_c w6.heap.size w8.heap.size m b1 b2 b3 a2 a3 1 2 _ (hm.out.after hc.out) (o2.out.after hc.out) (o3.out.after hc.out)).mono ?_)); rintro e w12 ⟨rfl, hd⟩; replace hc := Lib.hid (hc.out.trans (hd.mono hc.out.size)); clear hd)
    go_ret
    exact ⟨rfl, hb.trans (hc.out.mono hz)⟩
  · go_wp2_with (go_at_call 8; (first | (with_reducible refine (eq8_c w2.heap.size w4.heap.size m b1 b2 b3 a2 a3 2 0 _ (hm.out.after hc.out) (o0.out.after hc.out) (o1.out.after hc.out)).mono ?_) | (with_reducible refine (eq8_c w2.heap.size w6.heap.size m b1 b2 b3 a2 a3 2 1 _ (hm.out.after hc.out) (o0.out.after hc.out) (o2.out.after hc.out)).mono ?_) | (with_reducible refine (eq8_c w2.heap.size w8.heap.size m b1 b2 b3 a2 a3 2 2 _ (hm.out.after hc.out) (o0.out.after hc.out) (o3.out.after hc.out)).mono ?_) | (with_reducible refine (eq8_c w4.heap.size w6.heap.size m b1 b2 b3 a2 a3 0 1 _ (hm.out.after hc.out) (o1.out.after hc.out) (o2.out.after hc.out)).mono ?_) | (with_reducible refine (eq8_c w4.heap.size w8.heap.size m b1 b2 b3 a2 a3 0 2 _ (hm.out.after hc.out) (o1.out.after hc.out) (o3.out.after hc.out)).mono ?_) | (with_reducible refine (eq8_c w6.heap.size w8.heap.size m b1 b2 b3 a2 a3 1 2 _ (hm.out.after hc.out) (o2.out.after hc.out) (o3.out.after hc.out)).mono ?_)); rintro e w12 ⟨rfl, hd⟩; replace hc := Lib.hid (hc.out.trans (hd.mono hc.out.size)); clear hd)
    go_ret
    exact ⟨rfl, hb.trans (hc.out.mono hz)⟩
theorem own : ownKnob Try.prog.godebug = none := by kernel_rfl
theorem laidOut : laidOutB Try.prog = true := by kernel_rfl
set_option maxRecDepth 100000 in
theorem lifted (os : Os) (started : os.Started) (H : Type) (enc : TypeId × Value → H) :
    ReturnsInHanded {} Try.checked os 3 .any (Rows.fnOptionsFromConfigLoaderPicksModeSpec.pre6 enc Try.prog Try.f3 Rows.fnOptionsFromConfigLoaderPicksModeRow.domain false) (Rows.fnOptionsFromConfigLoaderPicksModeSpec.post enc Try.prog Try.f3 false true false false) := by
  refine returnsInHanded_of_change (C := Try.checked) own started (by kernel_rfl) Try.func3
    (ChangeSpec.witness6 (enc := enc) (C := Try.checked) false ⟨#[], #[.int .u8 0, .int .u8 0, .int .u16 0, .string ⟨#[]⟩, .slice none 0 0, .slice none 0 0], []⟩ 8 (by kernel_rfl) (by kernel_rfl) (by kernel_rfl) (by kernel_rfl)) ?_
  intro W base args ds gs before hval0 hW hcnd _
  have hval : ∀ (j : Nat) t v, Try.f3.params[j]? = some t → args[j]? = some v → Value.okWide Try.prog W .any base t v := hval0
  have hW' := hW
  obtain ⟨p, q, hA0, hV, rfl, hfz, hnd⟩ := hW
  have hA : DataW.TrodAll enc Try.prog W 0 (fun _ => true) true Try.f3.params.toList args.toList ds p := hA0
  rw [Try.params3] at hA hval
  obtain ⟨v0, vs0, d0, ds0, p0, q0, hargs, rfl, rfl, h0, r0⟩ := trodAll_cons hA
  obtain ⟨v1, vs1, d1, ds1, p1, q1, rfl, rfl, rfl, h1, r1⟩ := trodAll_cons r0
  obtain ⟨v2, vs2, d2, ds2, p2, q2, rfl, rfl, rfl, h2, r2⟩ := trodAll_cons r1
  obtain ⟨v3, vs3, d3, ds3, p3, q3, rfl, rfl, rfl, h3, r3⟩ := trodAll_cons r2
  obtain ⟨v4, vs4, d4, ds4, p4, q4, rfl, rfl, rfl, h4, r4⟩ := trodAll_cons r3
  obtain ⟨v5, vs5, d5, ds5, p5, q5, rfl, rfl, rfl, h5, r5⟩ := trodAll_cons r4
  obtain ⟨rfl, rfl, rfl⟩ := trodAll_nil r5
  obtain rfl : args = #[v0, v1, v2, v3, v4, v5] := by cases args; simp_all
  obtain ⟨rfl, rfl⟩ := trodVars_none hV
  obtain ⟨a0, rfl, rfl, rfl, w0⟩ := open_int Try.underlying5 (hval 0 5 v0 rfl rfl) h0
  obtain ⟨a1, rfl, rfl, rfl, w1⟩ := open_int Try.underlying5 (hval 1 5 v1 rfl rfl) h1
  obtain ⟨a2, rfl, rfl, rfl, w2⟩ := open_int Try.underlying22 (hval 2 22 v2 rfl rfl) h2
  obtain ⟨a3, rfl, rfl, rfl, w3⟩ := open_string Try.underlying9 (hval 3 9 v3 rfl rfl) h3
  have k4 := h4
  have lt4 : ∀ x ∈ p4, x.block < W.heap.size := by obtain ⟨m, hm⟩ := k4; exact DataW.trod_lt m _ _ _ hm
  obtain ⟨a4, n4, c4, f4, rfl, w4⟩ := arg_ints Try.underlying23 Try.underlying22 (by kernel_rfl) (hval 4 23 v4 rfl rfl) h4
  have k5 := h5
  have lt5 : ∀ x ∈ p5, x.block < W.heap.size := by obtain ⟨m, hm⟩ := k5; exact DataW.trod_lt m _ _ _ hm
  obtain ⟨a5, n5, c5, f5, rfl, w5⟩ := arg_ints Try.underlying24 Try.underlying5 (by kernel_rfl) (hval 5 24 v5 rfl rfl) h5
  clear hA0 hval0
  refine (walk a0 a1 a2 a3 a4 n4 c4 f4 a5 n5 c5 f5 W w0 w1 w2 w3 w4 w5).mono fun e W' ⟨he, bel⟩ => ?_
  subst he
  exact ⟨_, rfl, _, _, _, [], _, [], hW', trodAll_mk1 (shut_bool Try.underlying4 _), (trodAll_cons_mk (shut_int Try.underlying5 w0) (trodAll_cons_mk (shut_int Try.underlying5 w1) (trodAll_cons_mk (shut_int Try.underlying22 w2) (trodAll_cons_mk (shut_string Try.underlying9 w3) (trodAll_cons_mk (Below.trod laidOut (by kernel_rfl) (of_decide_eq_true (by kernel_rfl)) k4 bel lt4) (trodAll_cons_mk (Below.trod laidOut (by kernel_rfl) (of_decide_eq_true (by kernel_rfl)) k5 bel lt5) trodAll_mk0)))))), rfl, bel.frame _, fun h => by cases h⟩

theorem over : Rows.fnOptionsFromConfigLoaderPicksModeRow.holds Try.pinned (OpenSpec.ofChange Rows.fnOptionsFromConfigLoaderPicksModeSpec) :=
  OpenClaim.holds_of_wide 3 Try.f3 rfl rfl rfl rfl rfl rfl rfl ⟨rfl, rfl, rfl, rfl, rfl⟩ rfl rfl rfl rfl rfl (by kernel_rfl) Try.func3 (by kernel_rfl)
    (of_decide_eq_true (by kernel_rfl)) (by unfold Func.isWrapper; first | (rw [if_pos (by decide +kernel)]; kernel_rfl) | (rw [if_neg (by decide +kernel)]; exact ⟨rfl, rfl⟩))
    (fun os started H enc _ => lifted os started H enc)

theorem proved : Rows.FnOptionsFromConfigLoaderPicksModeSaid :=
  over
#print axioms proved
end Go.Proofs.Ytjhhecpnonaniaa.fnOptionsFromConfigLoaderPicksMode

/- FnIsSafeSelectorsConcat returns true at every argument; the listed variable is tied to the program's text (the card). -/
import Derived.Test.YtacalmdjkgbhlaaDoorIsa
import Derived.Test.YtacalmdjkgbhlaaDoorCards
import Derived.Test.YtacalmdjkgbhlaaDoorTie
import Derived.OpenVars
import Derived.Stop.Joined
import Derived.SevenTiedAt
set_option linter.unusedVariables false
set_option linter.unusedSimpArgs false
namespace Go.Proofs.YtacalmdjkgbhlaaDoor.fnIsSafeSelectorsConcat
open Go.ChangeShapes Go.WideShapes Go.ChangeAt Go.RowKit
theorem own : ownKnob Tryd.prog.godebug = none := by kernel_rfl
theorem laidOut : laidOutB Tryd.prog = true := by kernel_rfl
set_option maxRecDepth 100000 in
theorem lifted (os : Go.Os) (started : os.Started) (H : Type) (enc : TypeId × Value → H) :
    ReturnsInHanded {} Tryd.checked os 3 .any (fun w args => (Rows.fnIsSafeSelectorsConcatSpec.pre enc Tryd.prog Tryd.f3 [] false w args ∧ laidMetH Tryd.prog Rows.fnIsSafeSelectorsConcatRow.laid w) ∧ sizedMet enc Tryd.prog Tryd.f3 (OpenSpec.ofChange Rows.fnIsSafeSelectorsConcatSpec) false w args)
      (Rows.fnIsSafeSelectorsConcatSpec.post enc Tryd.prog Tryd.f3 false true false false) := by
  refine returnsInHanded_of_change_and (C := Tryd.checked) (X := fun w _ => laidMetH Tryd.prog Rows.fnIsSafeSelectorsConcatRow.laid w) (fun _ _ _ hh h => h.of_heap hh) own started (by kernel_rfl) Tryd.func3
    (ChangeSpec.witness_shaped (enc := enc) (C := Tryd.checked) (os := os) (X := fun w _ => laidMetH Tryd.prog Rows.fnIsSafeSelectorsConcatRow.laid w) false (laidW os) #[.slice none 0 0, .slice none 0 0] 8 (laidW_os _) (World.shaped_of_RefB (by kernel_rfl) (by kernel_rfl)) (by kernel_rfl) (by kernel_rfl) (by kernel_rfl) (laid_met os _)) ?_
  intro W base args ds gs before hval0 hW _ _ hL _
  have hval : ∀ (j : Nat) t v, Tryd.f3.params[j]? = some t → args[j]? = some v → Value.okWide Tryd.prog W .any base t v := hval0
  have hW' := hW
  obtain ⟨p, q, hA0, hV0, rfl, hfz, hnd⟩ := hW
  have hA : DataW.TrodAll enc Tryd.prog W 0 (fun _ => true) true Tryd.f3.params.toList args.toList ds p := hA0
  have hV : DataW.TrodVars enc Tryd.prog W (fun _ => true) [nMap] gs q := hV0
  rw [Tryd.params3] at hA hval
  obtain ⟨v0, vs0, d0, ds0, p0, q0, hargs, rfl, rfl, h0, r0⟩ := trodAll_cons hA
  obtain ⟨v1, vs1, d1, ds1, p1, q1, rfl, rfl, rfl, h1, r1⟩ := trodAll_cons r0
  obtain ⟨rfl, rfl, rfl⟩ := trodAll_nil r1
  obtain rfl : args = #[v0, v1] := by cases args; simp_all
  obtain ⟨dv, rfl⟩ : ∃ dv, gs = [dv] := by
    obtain ⟨g, t, cs, fuel, dv, pv, e, -⟩ := trodVars_one hV
    exact ⟨dv, e⟩
  have k0 := h0
  have lt0 : ∀ x ∈ p0, x.block < W.heap.size := by obtain ⟨m, hm⟩ := k0; exact DataW.trod_lt m _ _ _ hm
  have k1 := h1
  have lt1 : ∀ x ∈ p1, x.block < W.heap.size := by obtain ⟨m, hm⟩ := k1; exact DataW.trod_lt m _ _ _ hm
  obtain ⟨a0, n0, c0, rfl⟩ := okWide_slice Tryd.underlying22 (hval 0 22 v0 rfl rfl)
  obtain ⟨a1, n1, c1, rfl⟩ := okWide_slice Tryd.underlying22 (hval 1 22 v1 rfl rfl)
  obtain ⟨fuel0, hf0⟩ := h0
  obtain ⟨fuel1, hf1⟩ := h1
  obtain ⟨a, ga, ac, e0, z0, r0', m0⟩ := arg_groups hf0
  obtain ⟨b, gb, bc, e1, z1, r1', m1⟩ := arg_groups hf1
  injection e0 with e01 e02 e03
  injection e1 with e11 e12 e13
  subst e01 e02 e03 e11 e12 e13
  clear hA0 hval0
  refine (law_c (anyW ws0) ga gb a0 a1 c0 c1 W _ r0' r1' z0 z1 m0 m1 (res_of hL)).mono fun e W' ⟨he, bel⟩ => ?_
  subst he
  exact ⟨_, rfl, _, _, _, [], _, _, hW', trodAll_mk1 (shut_bool Tryd.underlying4 _), (trodAll_cons_mk (Below.trod laidOut (by kernel_rfl) (of_decide_eq_true (by kernel_rfl)) k0 bel lt0) (trodAll_cons_mk (Below.trod laidOut (by kernel_rfl) (of_decide_eq_true (by kernel_rfl)) k1 bel lt1) trodAll_mk0)), Below.trodVars laidOut bel (by kernel_rfl) hV, bel.frame _, fun h => by cases h⟩
theorem over : Rows.FnIsSafeSelectorsConcatSaid :=
  OpenClaim.holds_of_wide 3 Tryd.f3 rfl rfl rfl rfl rfl rfl rfl ⟨rfl, rfl, rfl, rfl, rfl⟩ rfl rfl rfl rfl rfl (by kernel_rfl) Tryd.func3 (by kernel_rfl)
    (of_decide_eq_true (by kernel_rfl)) (by unfold Func.isWrapper; first | (rw [if_pos (by decide +kernel)]; kernel_rfl) | (rw [if_neg (by decide +kernel)]; exact ⟨rfl, rfl⟩))
    (fun os started H enc _ => lifted os started H enc)
theorem proved : Rows.FnIsSafeSelectorsConcatCardSaid :=
  Claim7.holds_tied_plain_at .later [] [.mapped] true (true, "dc0a990d14eb44eed06f52390f75a717161151e5f5a57665704d55a777e20495") true
    over (fun _ h => by cases h) (by kernel_rfl) (fun _ h => by cases h) fnIsSafeSelectorsConcat_row_tie rfl ⟨rfl, rfl⟩ (by kernel_rfl) rfl
    (fun f fn hf hfn => by
      obtain rfl : f = 3 := Option.some.inj ((show Tryd.prog.funcNamed "github.com/evanw/esbuild/n011_227.FnIsSafeSelectorsConcat" = some 3 by kernel_rfl).symm.trans hf) |>.symm
      obtain rfl : fn = Tryd.f3 := (Option.some.inj (Tryd.func3.symm.trans hfn)).symm
      exact ⟨by kernel_rfl, fun j t ht => by
        rw [Tryd.params3] at ht
        have hm : t ∈ [22, 22] := by simpa using Array.mem_of_getElem? ht
        have hall : ([22, 22].all fun u => !Tryd.prog.wantsStandIn u) = true := by kernel_rfl
        exact (show Tryd.prog.wantsStandIn t = false by simpa using List.all_eq_true.1 hall t hm)⟩)
    (by kernel_rfl)
#print axioms proved
end Go.Proofs.YtacalmdjkgbhlaaDoor.fnIsSafeSelectorsConcat

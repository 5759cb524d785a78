/- FnListStyleShorthandExact returns true at every argument; the listed variables are tied to the program's text (the card). -/
import Derived.Test.YtpjbhbbhkhfiaaaDoorLsw
import Derived.Test.YtpjbhbbhkhfiaaaDoorLs8
import Derived.Test.YtpjbhbbhkhfiaaaDoorCards
import Derived.Test.YtpjbhbbhkhfiaaaDoorTie
import Derived.OpenVars
import Derived.OpenShut
import Derived.Stop.Joined
import Derived.SevenTiedAt
set_option linter.unusedVariables false
set_option linter.unusedSimpArgs false
namespace Go.Proofs.YtpjbhbbhkhfiaaaDoor.fnListStyleShorthandExact
open Go.ChangeShapes Go.WideShapes Go.ChangeAt Go.RowKit Go.Shelf
open Go.ChangeMaps (open_string shut_string)
theorem three_vars {H : Type} {enc : TypeId × Value → H} {P : Program} {w : World} {spare : Nat → Bool} {n0 n1 n2 : String} {gs : List (DataW H)} {ps : List MemPlace} (h : DataW.TrodVars enc P w spare [n0, n1, n2] gs ps) : ∃ a b c, gs = [a, b, c] := by
  cases gs with
  | nil => simp [DataW.TrodVars] at h
  | cons d ds =>
    obtain ⟨g0, t0, cs0, f0, p0, q0, h1, h2, h3, h4, hs, e⟩ := h
    obtain ⟨g0, t0, cs0, f0, d0, p0, g1, t1, cs1, f1, d1, p1, e, -⟩ := trodVars_two hs
    exact ⟨d, d0, d1, by rw [e]⟩
theorem own : ownKnob Tryd.prog.godebug = none := by kernel_rfl
theorem laidOut : laidOutB Tryd.prog = true := by kernel_rfl
set_option maxRecDepth 100000 in
theorem lifted (os : Go.Os) (started : os.Started) (H : Type) (enc : TypeId × Value → H) :
    ReturnsInHanded {} Tryd.checked os 3 .any (fun w args => (Rows.fnListStyleShorthandExactSpec.pre enc Tryd.prog Tryd.f3 [] false w args ∧ laidMetH Tryd.prog Rows.fnListStyleShorthandExactRow.laid w) ∧ sizedMet enc Tryd.prog Tryd.f3 (OpenSpec.ofChange Rows.fnListStyleShorthandExactSpec) false w args)
      (Rows.fnListStyleShorthandExactSpec.post enc Tryd.prog Tryd.f3 false true false false) := by
  refine returnsInHanded_of_change_and (C := Tryd.checked) (X := fun w _ => laidMetH Tryd.prog Rows.fnListStyleShorthandExactRow.laid w) (fun _ _ _ hh h => h.of_heap hh) own started (by kernel_rfl) Tryd.func3
    (ChangeSpec.witness_shaped (enc := enc) (C := Tryd.checked) (os := os) (X := fun w _ => laidMetH Tryd.prog Rows.fnListStyleShorthandExactRow.laid w) false (laidW os) #[.slice none 0 0, .slice none 0 0, .int .u32 0, .bool false] 8 (laidW_os _) (World.shaped_of_RefB (by kernel_rfl) (by kernel_rfl)) (by kernel_rfl) (by kernel_rfl) (by kernel_rfl) (laid_met os _)) ?_
  intro W base args ds gs before hval0 hW _ _ hL _
  have hval : ∀ (j : Nat) t v, Tryd.f3.params[j]? = some t → args[j]? = some v → Value.okWide Tryd.prog W .any base t v := hval0
  have hW' := hW
  obtain ⟨p, q, hA0, hV0, rfl, hfz, hnd⟩ := hW
  have hA : DataW.TrodAll enc Tryd.prog W 0 (fun _ => true) true Tryd.f3.params.toList args.toList ds p := hA0
  have hV : DataW.TrodVars enc Tryd.prog W (fun _ => true) [nM0, nM1, nInv] gs q := hV0
  rw [Tryd.params3] at hA hval
  obtain ⟨v0, vs0, d0, ds0, p0, q0, hargs, rfl, rfl, h0, r0⟩ := trodAll_cons hA
  obtain ⟨v1, vs1, d1, ds1, p1, q1, rfl, rfl, rfl, h1, r1⟩ := trodAll_cons r0
  obtain ⟨v2, vs2, d2, ds2, p2, q2, rfl, rfl, rfl, h2, r2⟩ := trodAll_cons r1
  obtain ⟨v3, vs3, d3, ds3, p3, q3, rfl, rfl, rfl, h3, r3⟩ := trodAll_cons r2
  obtain ⟨rfl, rfl, rfl⟩ := trodAll_nil r3
  obtain rfl : args = #[v0, v1, v2, v3] := by cases args; simp_all
  obtain ⟨dv, dv2, dv3, rfl⟩ : ∃ dv dv2 dv3, gs = [dv, dv2, dv3] := three_vars hV
  have k0 := h0
  have lt0 : ∀ x ∈ p0, x.block < W.heap.size := by obtain ⟨m, hm⟩ := k0; exact DataW.trod_lt m _ _ _ hm
  obtain ⟨a0, n0, c0, f0, rfl, w0⟩ := arg_ints Tryd.underlying22 Tryd.underlying5 (by kernel_rfl) (hval 0 22 v0 rfl rfl) h0
  have k1 := h1
  have lt1 : ∀ x ∈ p1, x.block < W.heap.size := by obtain ⟨m, hm⟩ := k1; exact DataW.trod_lt m _ _ _ hm
  obtain ⟨a1, n1, c1, f1, rfl, w1⟩ := arg_strings Tryd.underlying23 Tryd.underlying9 (by kernel_rfl) (hval 1 23 v1 rfl rfl) h1
  obtain ⟨a2, rfl, rfl, rfl, w2⟩ := open_int Tryd.underlying24 (hval 2 24 v2 rfl rfl) h2
  obtain ⟨a3, rfl, rfl, rfl⟩ := open_bool Tryd.underlying4 (hval 3 4 v3 rfl rfl) h3
  clear hA0 hval0
  have hK : ∀ i, i < n0 → 0 ≤ f0 i ∧ f0 i ≤ 255 := fun i hi => by
    have := w0.wf i hi
    simp [Lit.wf, IntKind.min, IntKind.max, IntKind.bits, IntKind.signed] at this
    omega
  refine (walk3 lowS a0 a1 n0 c0 n1 c1 f0 f1 a2 a3 W (env_of hL) w0.row w1.row (Nat.le_trans w0.le w0.max) (Nat.le_trans w1.le w1.max) hK w1.wf).mono fun e W' ⟨he, bel⟩ => ?_
  subst he
  exact ⟨_, rfl, _, _, _, [], _, _, hW', trodAll_mk1 (shut_bool Tryd.underlying4 _), (trodAll_cons_mk (Below.trod laidOut (by kernel_rfl) (of_decide_eq_true (by kernel_rfl)) k0 bel lt0) (trodAll_cons_mk (Below.trod laidOut (by kernel_rfl) (of_decide_eq_true (by kernel_rfl)) k1 bel lt1) (trodAll_cons_mk (shut_int Tryd.underlying24 w2) (trodAll_cons_mk (shut_bool Tryd.underlying4 a3) trodAll_mk0)))), Below.trodVars laidOut bel (by kernel_rfl) hV, bel.frame _, fun h => by cases h⟩
theorem over : Rows.FnListStyleShorthandExactSaid :=
  OpenClaim.holds_of_wide 3 Tryd.f3 rfl rfl rfl rfl rfl rfl rfl ⟨rfl, rfl, rfl, rfl, rfl⟩ rfl rfl rfl rfl rfl (by kernel_rfl) Tryd.func3 (by kernel_rfl)
    (of_decide_eq_true (by kernel_rfl)) (by unfold Func.isWrapper; first | (rw [if_pos (by decide +kernel)]; kernel_rfl) | (rw [if_neg (by decide +kernel)]; exact ⟨rfl, rfl⟩))
    (fun os started H enc _ => lifted os started H enc)
theorem proved : Rows.FnListStyleShorthandExactCardSaid :=
  Claim7.holds_tied_plain_at .later [] [.data, .data, .mapped, .mapped, .pinned, .pinned] true (true, "fd127fe6e6166cb3f02a63b63837dfd166af75c635963b5aa8aedf66ef39cdba") false
    over (fun _ h => by cases h) (by kernel_rfl) (fun _ h => by cases h) fnListStyleShorthandExact_row_tie rfl ⟨rfl, rfl⟩ (by kernel_rfl) rfl
    (fun f fn hf hfn => by
      obtain rfl : f = 3 := Option.some.inj ((show Tryd.prog.funcNamed "github.com/evanw/esbuild/n011_231.FnListStyleShorthandExact" = some 3 by kernel_rfl).symm.trans hf) |>.symm
      obtain rfl : fn = Tryd.f3 := (Option.some.inj (Tryd.func3.symm.trans hfn)).symm
      exact ⟨by kernel_rfl, fun j t ht => by
        rw [Tryd.params3] at ht
        have hm : t ∈ [22, 23, 24, 4] := by simpa using Array.mem_of_getElem? ht
        have hall : ([22, 23, 24, 4].all fun u => !Tryd.prog.wantsStandIn u) = true := by kernel_rfl
        exact (show Tryd.prog.wantsStandIn t = false by simpa using List.all_eq_true.1 hall t hm)⟩)
    (by kernel_rfl)
#print axioms proved
end Go.Proofs.YtpjbhbbhkhfiaaaDoor.fnListStyleShorthandExact

/- FnMultiplyMatricesOddInTheVector returns true at every argument (no condition). -/
import Derived.Test.YtanaamlkiackbaaOdd
import Derived.Test.YtanaamlkiackbaaFr9
namespace Go.Proofs.Ytanaamlkiackbaa.fnMultiplyMatricesOddInTheVector
open Go.ChangeShapes Go.WideShapes Go.ChangeAt Go.RowKit
open Go.ChangeMaps (open_string shut_string)
open Flt
set_option linter.unusedVariables false
set_option linter.unusedSimpArgs false
theorem walk (a0 : Nat → Nat) (a1 : Nat) (a2 : Nat) (a3 : Nat) (w : World) (w0 : ∀ i, i < 9 → (Lit.float .f64 (a0 i)).wf = true) (w1 : (Lit.float .f64 a1).wf = true) (w2 : (Lit.float .f64 a2).wf = true) (w3 : (Lit.float .f64 a3).wf = true) :
    Calls Try.prog 4 #[.agg #[.float .f64 (a0 0), .float .f64 (a0 1), .float .f64 (a0 2), .float .f64 (a0 3), .float .f64 (a0 4), .float .f64 (a0 5), .float .f64 (a0 6), .float .f64 (a0 7), .float .f64 (a0 8)], .float .f64 a1, .float .f64 a2, .float .f64 a3] w fun e w' => e = .returned (.bool true) ∧ Below w.heap.size w w' := law4 a0 a1 a2 a3 w (fun i hi => wf_lt (w0 i hi)) (wf_lt w1) (wf_lt w2) (wf_lt w3)
theorem own : ownKnob Try.prog.godebug = none := by kernel_rfl
theorem laidOut : laidOutB Try.prog = true := by kernel_rfl
set_option maxRecDepth 100000 in
theorem lifted (os : Os) (started : os.Started) (H : Type) (enc : TypeId × Value → H) :
    ReturnsInHanded {} Try.checked os 4 .any (Rows.fnMultiplyMatricesOddInTheVectorSpec.pre6 enc Try.prog Try.f4 Rows.fnMultiplyMatricesOddInTheVectorRow.domain false) (Rows.fnMultiplyMatricesOddInTheVectorSpec.post enc Try.prog Try.f4 false true false false) := by
  refine returnsInHanded_of_change (C := Try.checked) own started (by kernel_rfl) Try.func4
    (ChangeSpec.witness6 (enc := enc) (C := Try.checked) false ⟨#[], #[.agg #[.float .f64 0, .float .f64 0, .float .f64 0, .float .f64 0, .float .f64 0, .float .f64 0, .float .f64 0, .float .f64 0, .float .f64 0], .float .f64 0, .float .f64 0, .float .f64 0], []⟩ 8 (by kernel_rfl) (by kernel_rfl) (by kernel_rfl) (by kernel_rfl)) ?_
  intro W base args ds gs before hval0 hW hcnd _
  have hval : ∀ (j : Nat) t v, Try.f4.params[j]? = some t → args[j]? = some v → Value.okWide Try.prog W .any base t v := hval0
  have hW' := hW
  obtain ⟨p, q, hA0, hV, rfl, hfz, hnd⟩ := hW
  have hA : DataW.TrodAll enc Try.prog W 0 (fun _ => true) true Try.f4.params.toList args.toList ds p := hA0
  rw [Try.params4] at hA hval
  obtain ⟨v0, vs0, d0, ds0, p0, q0, hargs, rfl, rfl, h0, r0⟩ := trodAll_cons hA
  obtain ⟨v1, vs1, d1, ds1, p1, q1, rfl, rfl, rfl, h1, r1⟩ := trodAll_cons r0
  obtain ⟨v2, vs2, d2, ds2, p2, q2, rfl, rfl, rfl, h2, r2⟩ := trodAll_cons r1
  obtain ⟨v3, vs3, d3, ds3, p3, q3, rfl, rfl, rfl, h3, r3⟩ := trodAll_cons r2
  obtain ⟨rfl, rfl, rfl⟩ := trodAll_nil r3
  obtain rfl : args = #[v0, v1, v2, v3] := by cases args; simp_all
  obtain ⟨rfl, rfl⟩ := trodVars_none hV
  have k0 := h0
  have lt0 : ∀ x ∈ p0, x.block < W.heap.size := by obtain ⟨m, hm⟩ := k0; exact DataW.trod_lt m _ _ _ hm
  obtain ⟨a0, rfl, w0⟩ := arg_nine Try.underlying25 Try.underlying22 (by kernel_rfl) (by kernel_rfl) (hval 0 25 v0 rfl rfl) h0
  obtain ⟨a1, rfl, rfl, rfl, w1⟩ := open_float Try.underlying22 (hval 1 22 v1 rfl rfl) h1
  obtain ⟨a2, rfl, rfl, rfl, w2⟩ := open_float Try.underlying22 (hval 2 22 v2 rfl rfl) h2
  obtain ⟨a3, rfl, rfl, rfl, w3⟩ := open_float Try.underlying22 (hval 3 22 v3 rfl rfl) h3
  clear hA0 hval0
  refine (walk a0 a1 a2 a3 W w0 w1 w2 w3).mono fun e W' ⟨he, bel⟩ => ?_
  subst he
  exact ⟨_, rfl, _, _, _, [], _, [], hW', trodAll_mk1 (shut_bool Try.underlying4 _), (trodAll_cons_mk (Below.trod laidOut (by kernel_rfl) (of_decide_eq_true (by kernel_rfl)) k0 bel lt0) (trodAll_cons_mk (shut_float Try.underlying22 w1) (trodAll_cons_mk (shut_float Try.underlying22 w2) (trodAll_cons_mk (shut_float Try.underlying22 w3) trodAll_mk0)))), rfl, bel.frame _, fun h => by cases h⟩

theorem over : Rows.fnMultiplyMatricesOddInTheVectorRow.holds Try.pinned (OpenSpec.ofChange Rows.fnMultiplyMatricesOddInTheVectorSpec) :=
  OpenClaim.holds_of_wide 4 Try.f4 rfl rfl rfl rfl rfl rfl rfl ⟨rfl, rfl, rfl, rfl, rfl⟩ rfl rfl rfl rfl rfl (by kernel_rfl) Try.func4 (by kernel_rfl)
    (of_decide_eq_true (by kernel_rfl)) (by unfold Func.isWrapper; first | (rw [if_pos (by decide +kernel)]; kernel_rfl) | (rw [if_neg (by decide +kernel)]; exact ⟨rfl, rfl⟩))
    (fun os started H enc _ => lifted os started H enc)

theorem proved : Rows.FnMultiplyMatricesOddInTheVectorSaid :=
  over
#print axioms proved
end Go.Proofs.Ytanaamlkiackbaa.fnMultiplyMatricesOddInTheVector

/- FnSubstituteAmpersandsClosedForm returns true at every argument (the told and tied card). -/
import Derived.Test.YtjigljpodkfchaaFmtSuu
import Derived.Test.YtjigljpodkfchaaFmtCards
import Derived.Test.YtjigljpodkfchaaFmtTie
import Derived.Lay
import Derived.LaidMore
import Derived.MakeChecks
import Derived.OpenVars
import Derived.Stop.Joined
import Derived.Stop.JoinedAt
import Derived.Stop.JoinedTold
import Derived.Deep.DeepWitnessRef
import Derived.SevenTiedAt
set_option linter.unusedVariables false
set_option linter.unusedSimpArgs false
namespace Go.Proofs.YtjigljpodkfchaaFmt.fnSubstituteAmpersandsClosedForm
open Go.ChangeShapes Go.WideShapes Go.ChangeAt Go.RowKit
open Go.Extern.Stop Go.Stop Go.Extern
set_option maxRecDepth 100000
theorem own : ownKnob Tryf.prog.godebug = none := by kernel_rfl
theorem laidOut : laidOutB Tryf.prog = true := by kernel_rfl
theorem laid_met (os : Go.Os) (args : Array Value) : laidMetH Tryf.prog Rows.fnSubstituteAmpersandsClosedFormRow.laid ((World.laidAll Tryf.prog os Rows.fnSubstituteAmpersandsClosedFormRow.laid).forCall (fun _ _ => 0) ⟨#[], args, []⟩).memory := by
  rw [MakeChecks.laidMetH_plain _ _ _ (by kernel_rfl)]
  exact laidMet_laidAll args (by kernel_rfl) (by kernel_rfl)
theorem lifted (os : Go.Os) (started : os.Started) (H : Type) (enc : TypeId × Value → H) :
    ReturnsInTold none {} Tryf.checked os 3 .any Input.okWide ((OpenSpec.ofChange Rows.fnSubstituteAmpersandsClosedFormSpec).preRow enc Tryf.prog Tryf.f3 [] false Rows.fnSubstituteAmpersandsClosedFormRow.laid) (fun F => ((OpenSpec.ofChange Rows.fnSubstituteAmpersandsClosedFormSpec).at F).post enc Tryf.prog Tryf.f3 false true false false) (aloneAtReturn Tryf.prog) nothingAlways := by
  refine returnsInTold_of_row (C := Tryf.checked) (s := OpenSpec.ofChange Rows.fnSubstituteAmpersandsClosedFormSpec) (by kernel_rfl) own started (by kernel_rfl) Tryf.func3
    (OpenSpec.witness_stopped_atRef (enc := enc) (C := Tryf.checked) (s := OpenSpec.ofChange Rows.fnSubstituteAmpersandsClosedFormSpec) false (World.laidAll Tryf.prog os Rows.fnSubstituteAmpersandsClosedFormRow.laid) #[.agg #[.int .u8 0, .int .u8 0, .slice none 0 0], .slice none 0 0, .slice none 0 0, .bool false] (World.laidAll_os _ _ _) (by kernel_rfl) (by kernel_rfl) (by kernel_rfl)
      (OpenSpec.preRow_of_B rfl 8 (by kernel_rfl) (by kernel_rfl) (laid_met os _))) ?_
  intro F W base args ds gs before _ hF hval0 hW hx1 hx2 hx3 hx4 hx5
  have hval : ∀ (j : Nat) t v, Tryf.f3.params[j]? = some t → args[j]? = some v → Value.okWide Tryf.prog W .any base t v := hval0
  have hW' := hW
  obtain ⟨p, q, hA0, hV, rfl, hfz, hnd⟩ := hW
  have hA : DataW.TrodAll enc Tryf.prog W 0 (fun _ => true) true Tryf.f3.params.toList args.toList ds p := hA0
  rw [Tryf.params3] at hA hval
  obtain ⟨v0, vs0, d0, ds0, p0, q0, hargs, rfl, rfl, h0, r0⟩ := trodAll_cons hA
  obtain ⟨v1, vs1, d1, ds1, p1, q1, rfl, rfl, rfl, h1, r1⟩ := trodAll_cons r0
  obtain ⟨v2, vs2, d2, ds2, p2, q2, rfl, rfl, rfl, h2, r2⟩ := trodAll_cons r1
  obtain ⟨v3, vs3, d3, ds3, p3, q3, rfl, rfl, rfl, h3, r3⟩ := trodAll_cons r2
  obtain ⟨rfl, rfl, rfl⟩ := trodAll_nil r3
  obtain rfl : args = #[v0, v1, v2, v3] := by cases args; simp_all
  obtain ⟨rfl, rfl⟩ := trodVars_none hV
  have k0 := h0
  have lt0 : ∀ x ∈ p0, x.block < W.heap.size := by obtain ⟨m, hm⟩ := k0; exact DataW.trod_lt m _ _ _ hm
  have k1 := h1
  have lt1 : ∀ x ∈ p1, x.block < W.heap.size := by obtain ⟨m, hm⟩ := k1; exact DataW.trod_lt m _ _ _ hm
  have k2 := h2
  have lt2 : ∀ x ∈ p2, x.block < W.heap.size := by obtain ⟨m, hm⟩ := k2; exact DataW.trod_lt m _ _ _ hm
  obtain ⟨c0, rfl, hz0⟩ := okWide_struct Tryf.underlying24 (hval 0 24 v0 rfl rfl)
  obtain ⟨a1, n1, cc1, rfl⟩ := okWide_slice Tryf.underlying25 (hval 1 25 v1 rfl rfl)
  obtain ⟨a2, n2, cc2, rfl⟩ := okWide_slice Tryf.underlying26 (hval 2 26 v2 rfl rfl)
  obtain ⟨a3, rfl, rfl, rfl⟩ := open_bool Tryf.underlying4 (hval 3 4 v3 rfl rfl) h3
  obtain ⟨fuel0, hf0⟩ := h0
  obtain ⟨fuel1, hf1⟩ := h1
  obtain ⟨fuel2, hf2⟩ := h2
  rw [c24] at hz0
  obtain ⟨cm, na, nc, hcm, hRN, hnm, ham⟩ := cm_of (show c0.toList.length = 3 by simpa using hz0) (show DataW.trod enc Tryf.prog W 0 (fun _ => true) true fuel0 24 c0.toList = _ from hf0)
  obtain ⟨ga, gs, gcap, e1, hRX, hg⟩ := arg_groups (show DataW.trod enc Tryf.prog W 0 (fun _ => true) true fuel1 25 [.slice a1 n1 cc1] = _ from hf1)
  obtain ⟨ra, rs, rcap, e2, hRM, hr⟩ := arg_comps (show DataW.trod enc Tryf.prog W 0 (fun _ => true) true fuel2 26 [.slice a2 n2 cc2] = _ from hf2)
  injection e1 with e1 e1' e1''
  injection e2 with e2 e2' e2''
  subst e1 e1' e1'' e2 e2' e2''
  obtain rfl : c0 = #[.int .u8 cm.cb, .int .u8 cm.am, .slice na cm.nm.length nc] := by apply Array.ext'; exact hcm
  clear hA0 hval0
  refine (law3_c cm ham na nc _ rfl gs _ rfl a1 cc1 rs _ rfl a2 cc2 a3 W hRN hRX hRM hnm hg hr).mono fun e W' ⟨he, bel⟩ => ?_
  subst he
  exact ⟨_, rfl, _, _, _, [], _, [], hW', trodAll_mk1 (shut_bool Tryf.underlying4 _), (trodAll_cons_mk (Below.trod laidOut (by kernel_rfl) (of_decide_eq_true (by kernel_rfl)) k0 bel lt0) (trodAll_cons_mk (Below.trod laidOut (by kernel_rfl) (of_decide_eq_true (by kernel_rfl)) k1 bel lt1) (trodAll_cons_mk (Below.trod laidOut (by kernel_rfl) (of_decide_eq_true (by kernel_rfl)) k2 bel lt2) (trodAll_cons_mk (shut_bool Tryf.underlying4 a3) trodAll_mk0)))), rfl, bel.frame _, fun h => by cases h⟩
theorem stops : Tryf.pinned.checked.prog.stops = ["fmt.Sprintf"] := by kernel_rfl
theorem stopKnobs : Tryf.pinned.checked.prog.stopKnobs = [] := by kernel_rfl
theorem quiet (os : Go.Os) : Stop.quiet Tryf.pinned.checked.prog os := by
  intro k hk
  rw [stopKnobs] at hk
  cases hk
theorem proved : Rows.FnSubstituteAmpersandsClosedFormToldSaid :=
  Claim7.holds_of_told_tied_any_at .later 3 Tryf.f3 "fmt.Sprintf" [] [] (true, "eb2210a53ee3ab4bd86431033f8ea9d975c2b68dc0e8360a0bf779e71310dd7b") true false [.data, .pinned] true
    (by kernel_rfl) rfl rfl rfl laidOut (by kernel_rfl) rfl ⟨rfl, rfl, rfl, rfl, rfl, rfl, rfl⟩ rfl rfl (by kernel_rfl) (by kernel_rfl) Tryf.func3 (by kernel_rfl)
    (of_decide_eq_true (by kernel_rfl)) (by unfold Func.isWrapper; first | (rw [if_pos (by decide +kernel)]; kernel_rfl) | (rw [if_neg (by decide +kernel)]; exact ⟨rfl, rfl⟩))
    stops.symm rfl stopKnobs.symm (by kernel_rfl)
    (by kernel_rfl) (by kernel_rfl) (by kernel_rfl) (by kernel_rfl) (by kernel_rfl) (by kernel_rfl) (by kernel_rfl) (by kernel_rfl) (by kernel_rfl) rfl (by kernel_rfl) rfl rfl
    rfl rfl
    rfl (by kernel_rfl) (by kernel_rfl) (by kernel_rfl) (by decide) (by kernel_rfl) fnSubstituteAmpersandsClosedForm_row_tie
    (OpenClaim.moreEntering_of (by kernel_rfl) (by kernel_rfl) (by kernel_rfl) (by kernel_rfl) (by kernel_rfl) (by kernel_rfl) (by kernel_rfl) (by kernel_rfl) (by kernel_rfl) (by kernel_rfl))
    ⟨_, WideRow.started_initial, quiet _⟩
    (fun os started _ H enc _ => lifted os started H enc)
#print axioms proved
end Go.Proofs.YtjigljpodkfchaaFmt.fnSubstituteAmpersandsClosedForm

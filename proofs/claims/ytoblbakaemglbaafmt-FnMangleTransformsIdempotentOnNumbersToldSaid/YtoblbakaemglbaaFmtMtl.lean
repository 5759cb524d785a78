/- FnMangleTransformsIdempotentOnNumbers returns true at every argument (the told and tied card). -/
import Derived.Test.YtoblbakaemglbaaFmtMtk
import Derived.Test.YtoblbakaemglbaaFmtSh
import Derived.Test.YtoblbakaemglbaaFmtCards
import Derived.Test.YtoblbakaemglbaaFmtTie
import Derived.Lib.LaidCaseMet
import Derived.Lib.LaidU8
import Derived.PinnedBridge
import Derived.Lay
import Derived.LaidMore
import Derived.MakeChecks
import Derived.OpenVars
import Derived.Stop.Joined
import Derived.Stop.JoinedAt
import Derived.Stop.JoinedTold
import Derived.Deep.DeepWitnessRef
import Derived.SevenTiedAt
set_option linter.unusedVariables false
set_option linter.unusedSimpArgs false
namespace Go.Proofs.YtoblbakaemglbaaFmt.fnMangleTransformsIdempotentOnNumbers
open Go.ChangeShapes Go.WideShapes Go.ChangeAt Go.RowKit Go.Shelf
open Go.Extern.Stop Go.Stop Go.Extern
set_option maxRecDepth 100000
theorem own : ownKnob Tryf.prog.godebug = none := by kernel_rfl
theorem laidOut : laidOutB Tryf.prog = true := by kernel_rfl
abbrev laidL : List (String × DataW Unit) := Rows.fnMangleTransformsIdempotentOnNumbersRow.laid
theorem accept_eq : Rows.laid_unicode_utf8_acceptRanges (H := Unit) = Lib.acceptData := by kernel_rfl
theorem caseX : CaseExtra Tryf.prog Tryf.lays159_ren := ⟨by kernel_rfl, by kernel_rfl, by kernel_rfl, by kernel_rfl, by kernel_rfl, by kernel_rfl⟩
theorem u8X : U8Extra Tryf.prog Tryf.lays159_ren := ⟨by kernel_rfl, by kernel_rfl, by kernel_rfl, by kernel_rfl, by kernel_rfl, by kernel_rfl, by kernel_rfl⟩
theorem laid_plain {W : World} (h : laidMetH Tryf.prog laidL W) : laidMet Tryf.prog [("unicode/utf8.acceptRanges", Lib.acceptData), ("unicode.CaseRanges", Lib.caseData), ("unicode/utf8.first", Lib.firstData)] W := by
  rw [MakeChecks.laidMetH_plain _ _ _ (by kernel_rfl)] at h
  have h2 : laidMet Tryf.prog [("unicode/utf8.acceptRanges", Rows.laid_unicode_utf8_acceptRanges), ("unicode.CaseRanges", Go.Pinned.caseRanges), ("unicode/utf8.first", Go.Pinned.utf8First)] W := h
  rw [accept_eq, Pinned.caseRanges_eq, Pinned.utf8First_eq] at h2
  exact h2
theorem low_of {W : World} (h : laidMetH Tryf.prog laidL W) : Low lowS W := by
  have h2 := laid_plain h
  have hC : Go.Lib.CaseVar (Tryf.lays159_ren.g 13) Go.Lib.caseA W := caseVar_of_reads { Tryf.lays159 with } Tryf.lays159.t206 caseX (Lib.laidMet.reads h2 (.tail _ (.head _)))
  have hU : Lib.Utf8Tabs (Tryf.lays159_ren.g 3) (Tryf.lays159_ren.g 4) W := utf8Tabs_of_reads { Tryf.lays159 with } u8X (Lib.laidMet.reads h2 (.tail _ (.tail _ (.head _)))) (Lib.laidMet.reads h2 (.head _))
  intro s w' hs hb
  exact Tryf.strings_ToLower_any s w' (by omega) (Go.Lib.CaseVar_below hC hb) ⟨fun c hc => ac hb (hU.1 c hc), fun i hi => ⟨ac hb (hU.2 i hi).1, ac hb (hU.2 i hi).2⟩⟩
theorem laid_met (os : Go.Os) (args : Array Value) : laidMetH Tryf.prog Rows.fnMangleTransformsIdempotentOnNumbersRow.laid ((World.laidAll Tryf.prog os Rows.fnMangleTransformsIdempotentOnNumbersRow.laid).forCall (fun _ _ => 0) ⟨#[], args, []⟩).memory := by
  rw [MakeChecks.laidMetH_plain _ _ _ (by kernel_rfl)]
  exact laidMet_laidAll args (by kernel_rfl) (by kernel_rfl)
theorem wf_u8 {n : Int} (h : (Lit.int .u8 n).wf = true) : 0 ≤ n ∧ n ≤ 255 := by
  have e1 : IntKind.u8.min = 0 := by decide
  have e2 : IntKind.u8.max = 255 := by decide
  simp [Lit.wf] at h; omega
theorem lifted (os : Go.Os) (started : os.Started) (H : Type) (enc : TypeId × Value → H) :
    ReturnsInTold none {} Tryf.checked os 3 .any Input.okWide ((OpenSpec.ofChange Rows.fnMangleTransformsIdempotentOnNumbersSpec).preRow enc Tryf.prog Tryf.f3 [] false Rows.fnMangleTransformsIdempotentOnNumbersRow.laid) (fun F => ((OpenSpec.ofChange Rows.fnMangleTransformsIdempotentOnNumbersSpec).at F).post enc Tryf.prog Tryf.f3 false true false false) (aloneAtReturn Tryf.prog) nothingAlways := by
  refine returnsInTold_of_row (C := Tryf.checked) (s := OpenSpec.ofChange Rows.fnMangleTransformsIdempotentOnNumbersSpec) (by kernel_rfl) own started (by kernel_rfl) Tryf.func3
    (OpenSpec.witness_stopped_atRef (enc := enc) (C := Tryf.checked) (s := OpenSpec.ofChange Rows.fnMangleTransformsIdempotentOnNumbersSpec) false (World.laidAll Tryf.prog os Rows.fnMangleTransformsIdempotentOnNumbersRow.laid) #[.int .u8 0, .bool false, .slice none 0 0, .int .u8 0] (World.laidAll_os _ _ _) (by kernel_rfl) (by kernel_rfl) (by kernel_rfl)
      (OpenSpec.preRow_of_B rfl 8 (by kernel_rfl) (by kernel_rfl) (laid_met os _))) ?_
  intro F W base args ds gs before _ hF hval0 hW hx1 hx2 hx3 hx4 hx5
  have hval : ∀ (j : Nat) t v, Tryf.f3.params[j]? = some t → args[j]? = some v → Value.okWide Tryf.prog W .any base t v := hval0
  have hW' := hW
  obtain ⟨p, q, hA0, hV, rfl, hfz, hnd⟩ := hW
  have hA : DataW.TrodAll enc Tryf.prog W 0 (fun _ => true) true Tryf.f3.params.toList args.toList ds p := hA0
  rw [Tryf.params3] at hA hval
  obtain ⟨v0, vs0, d0, ds0, p0, q0, hargs, rfl, rfl, h0, r0⟩ := trodAll_cons hA
  obtain ⟨v1, vs1, d1, ds1, p1, q1, rfl, rfl, rfl, h1, r1⟩ := trodAll_cons r0
  obtain ⟨v2, vs2, d2, ds2, p2, q2, rfl, rfl, rfl, h2, r2⟩ := trodAll_cons r1
  obtain ⟨v3, vs3, d3, ds3, p3, q3, rfl, rfl, rfl, h3, r3⟩ := trodAll_cons r2
  obtain ⟨rfl, rfl, rfl⟩ := trodAll_nil r3
  obtain rfl : args = #[v0, v1, v2, v3] := by cases args; simp_all
  obtain ⟨rfl, rfl⟩ := trodVars_none hV
  have k2 := h2
  have lt2 : ∀ x ∈ p2, x.block < W.heap.size := by obtain ⟨m, hm⟩ := k2; exact DataW.trod_lt m _ _ _ hm
  obtain ⟨a0, rfl, rfl, rfl, w0⟩ := open_int Tryf.underlying5 (hval 0 5 v0 rfl rfl) h0
  obtain ⟨a1, rfl, rfl, rfl⟩ := open_bool Tryf.underlying4 (hval 1 4 v1 rfl rfl) h1
  obtain ⟨a2, n2, c2, f2, rfl, w2⟩ := arg_ints Tryf.underlying22 Tryf.underlying5 (by kernel_rfl) (hval 2 22 v2 rfl rfl) h2
  obtain ⟨a3, rfl, rfl, rfl, w3⟩ := open_int Tryf.underlying5 (hval 3 5 v3 rfl rfl) h3
  clear hA0 hval0
  have hn2 : n2 ≤ maxLen := Nat.le_trans w2.le w2.max
  have hLL : Low lowS W := by first | exact low_of hx1 | exact low_of hx4 | exact low_of hx5 | exact low_of hx2
  refine (law_all a0 a3 a1 a2 n2 c2 f2 W (wf_u8 w0).1 (wf_u8 w0).2 (wf_u8 w3).1 (wf_u8 w3).2 w2.row (fun i hi => wf_u8 (w2.wf i hi)) hn2 hLL).mono fun e W' ⟨he, bel⟩ => ?_
  subst he
  exact ⟨_, rfl, _, _, _, [], _, [], hW', trodAll_mk1 (shut_bool Tryf.underlying4 _), (trodAll_cons_mk (shut_int Tryf.underlying5 w0) (trodAll_cons_mk (shut_bool Tryf.underlying4 a1) (trodAll_cons_mk (Below.trod laidOut (by kernel_rfl) (of_decide_eq_true (by kernel_rfl)) k2 bel lt2) (trodAll_cons_mk (shut_int Tryf.underlying5 w3) trodAll_mk0)))), rfl, bel.frame _, fun h => by cases h⟩
theorem stops : Tryf.pinned.checked.prog.stops = ["fmt.Sprintf"] := by kernel_rfl
theorem stopKnobs : Tryf.pinned.checked.prog.stopKnobs = [] := by kernel_rfl
theorem quiet (os : Go.Os) : Stop.quiet Tryf.pinned.checked.prog os := by
  intro k hk
  rw [stopKnobs] at hk
  cases hk
theorem proved : Rows.FnMangleTransformsIdempotentOnNumbersToldSaid :=
  Claim7.holds_of_told_tied_any_at .later 3 Tryf.f3 "fmt.Sprintf" [] [] (true, "8edb3ba30225e5b41411b51f9018d293f203d1181b39d2e5db035a64ca44f086") false false [.data, .pinned, .pinned] true
    (by kernel_rfl) rfl rfl rfl laidOut (by kernel_rfl) rfl ⟨rfl, rfl, rfl, rfl, rfl, rfl, rfl⟩ rfl rfl (by kernel_rfl) (by kernel_rfl) Tryf.func3 (by kernel_rfl)
    (of_decide_eq_true (by kernel_rfl)) (by unfold Func.isWrapper; first | (rw [if_pos (by decide +kernel)]; kernel_rfl) | (rw [if_neg (by decide +kernel)]; exact ⟨rfl, rfl⟩))
    stops.symm rfl stopKnobs.symm (by kernel_rfl)
    (by kernel_rfl) (by kernel_rfl) (by kernel_rfl) (by kernel_rfl) (by kernel_rfl) (by kernel_rfl) (by kernel_rfl) (by kernel_rfl) (by kernel_rfl) rfl (by kernel_rfl) rfl rfl
    rfl rfl
    rfl (by kernel_rfl) (by kernel_rfl) (by kernel_rfl) (by decide) (by kernel_rfl) fnMangleTransformsIdempotentOnNumbers_row_tie
    (OpenClaim.moreEntering_of (by kernel_rfl) (by kernel_rfl) (by kernel_rfl) (by kernel_rfl) (by kernel_rfl) (by kernel_rfl) (by kernel_rfl) (by kernel_rfl) (by kernel_rfl) (by kernel_rfl))
    ⟨_, WideRow.started_initial, quiet _⟩
    (fun os started _ H enc _ => lifted os started H enc)
#print axioms proved
end Go.Proofs.YtoblbakaemglbaaFmt.fnMangleTransformsIdempotentOnNumbers

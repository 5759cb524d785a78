/- FnMangleCornersIdempotent returns true at every argument (a second pass over the corners changes nothing); the three listed tables are tied to the program's text (the card). -/
import Derived.Test.YthdogpahkglaoaaDoorBcr
import Derived.Test.YthdogpahkglaoaaDoorSh
import Derived.Test.YthdogpahkglaoaaDoorCards
import Derived.Test.YthdogpahkglaoaaDoorTie
import Derived.Lib.LaidCaseMet
import Derived.Lib.LaidU8
import Derived.PinnedBridge
import Derived.LaidMore
import Derived.MakeChecks
import Derived.Stop.Joined
import Derived.SevenTiedAt
import Derived.Test.YthdogpahkglaoaaDoorArg
import Derived.OpenShut
import Derived.ChangeOld
import Derived.WideShapes
import Derived.Laws.Cover2
set_option linter.unusedVariables false
set_option linter.unusedSimpArgs false
namespace Go.Proofs.YthdogpahkglaoaaDoor.fnMangleCornersIdempotent
open Go.ChangeShapes Go.WideShapes Go.ChangeAt Go.RowKit Go.Shelf
open Go.ChangeMaps (open_string shut_string)
theorem own : ownKnob Tryd.prog.godebug = none := by kernel_rfl
theorem laidOut : laidOutB Tryd.prog = true := by kernel_rfl
theorem accept_eq : Rows.laid_unicode_utf8_acceptRanges (H := Unit) = Lib.acceptData := by kernel_rfl
/-- the witness: the settled world with one block more (the rows of unicode.CaseRanges), the three variables holding what their initialisers lay -/
noncomputable def laidWorld (os : Go.Os) : World :=
  let N := (World.settled Tryd.prog os).heap.size
  let w0 := World.holding Tryd.prog os ⟨#[.cells Lib.caseCells5 (Tryd.lays159_ren.t 208)], #[], []⟩
  let put (h : Array Obj) (g : Nat) (cs : Array Value) : Array Obj := h.modify g fun
    | .cells _ t frozen => .cells cs t frozen
    | o => o
  let h2 := put w0.heap 2 (Lib.firstTab.map fun z => Value.int .u8 z).toArray
  let h3 := put h2 3 ((List.range 16).flatMap fun i => [Value.int .u8 (Lib.accLo i), Value.int .u8 (Lib.accHi i)]).toArray
  let h5 := put h3 0 #[.slice (some ⟨N, 0, none⟩) 336 336]
  { w0 with heap := h5 }
theorem caseX : CaseExtra Tryd.prog Tryd.lays159_ren := ⟨by kernel_rfl, by kernel_rfl, by kernel_rfl, by kernel_rfl, by kernel_rfl, by kernel_rfl⟩
theorem laid_met0 (os : Go.Os) (args : Array Value) : laidMet Tryd.prog ([("unicode/utf8.acceptRanges", Lib.acceptData), ("unicode/utf8.first", Lib.firstData)] ++ [("unicode.CaseRanges", Lib.caseData)]) ((laidWorld os).forCall (fun _ _ => 0) ⟨#[], args, []⟩).memory :=
  laidMet_with_case (ρ := Tryd.lays159_ren) { Tryd.lays159 with } Tryd.lays159.t206 caseX
    (l := [("unicode/utf8.acceptRanges", Lib.acceptData), ("unicode/utf8.first", Lib.firstData)])
    10 (by kernel_rfl) (by kernel_rfl) (by kernel_rfl) ((World.settled Tryd.prog default).heap.size) (Tryd.lays159_ren.t 208) (of_decide_eq_true (by kernel_rfl)) (by kernel_rfl) (by kernel_rfl) (by kernel_rfl)
theorem laid_perm {P : Program} {w : World} {x y z : String × DataW Unit} (h : laidMet P ([x, y] ++ [z]) w) : laidMet P [x, z, y] w := by
  obtain ⟨n0, d0⟩ := x
  obtain ⟨n1, d1⟩ := y
  obtain ⟨n2, d2⟩ := z
  obtain ⟨ps, ⟨g0, t0, cs0, f0, p0, q0, a1, a2, a3, a4, ⟨g1, t1, cs1, f1, p1, q1, b1, b2, b3, b4, ⟨g2, t2, cs2, f2, p2, q2, c1, c2, c3, c4, c5, rfl⟩, rfl⟩, rfl⟩, hnd, hr⟩ := h
  have hq : q2 = [] := c5
  subst hq
  have hp : ((MemPlace.row ⟨g0, 0, none⟩ cs0.size ++ p0) ++ ((MemPlace.row ⟨g1, 0, none⟩ cs1.size ++ p1) ++ ((MemPlace.row ⟨g2, 0, none⟩ cs2.size ++ p2) ++ []))).Perm ((MemPlace.row ⟨g0, 0, none⟩ cs0.size ++ p0) ++ ((MemPlace.row ⟨g2, 0, none⟩ cs2.size ++ p2) ++ ((MemPlace.row ⟨g1, 0, none⟩ cs1.size ++ p1) ++ []))) := by
    refine List.Perm.append_left _ ?_
    rw [List.append_nil, List.append_nil]
    exact List.perm_append_comm
  refine ⟨_, ⟨g0, t0, cs0, f0, p0, _, a1, a2, a3, a4, ⟨g2, t2, cs2, f2, p2, _, c1, c2, c3, c4, ⟨g1, t1, cs1, f1, p1, [], b1, b2, b3, b4, rfl, rfl⟩, rfl⟩, rfl⟩, hp.nodup_iff.1 hnd, fun b off hm => hr b off (hp.mem_iff.2 hm)⟩
theorem laid_met (os : Go.Os) (args : Array Value) : laidMetH Tryd.prog Rows.fnMangleCornersIdempotentRow.laid ((laidWorld os).forCall (fun _ _ => 0) ⟨#[], args, []⟩).memory := by
  have h := laid_perm (laid_met0 os args)
  rw [MakeChecks.laidMetH_plain _ _ _ (by kernel_rfl)]
  show laidMet Tryd.prog [("unicode/utf8.acceptRanges", Rows.laid_unicode_utf8_acceptRanges), ("unicode.CaseRanges", Go.Pinned.caseRanges), ("unicode/utf8.first", Go.Pinned.utf8First)] _
  rw [accept_eq, Pinned.caseRanges_eq, Pinned.utf8First_eq]
  exact h
theorem wf_u8 {n : Int} (h : (Lit.int .u8 n).wf = true) : 0 ≤ n ∧ n ≤ 255 := by
  have e1 : IntKind.u8.min = 0 := by decide
  have e2 : IntKind.u8.max = 255 := by decide
  simp [Lit.wf] at h; omega
set_option maxRecDepth 100000 in
theorem lifted (os : Go.Os) (started : os.Started) (H : Type) (enc : TypeId × Value → H) :
    ReturnsInHanded {} Tryd.checked os 4 .any (fun w args => (Rows.fnMangleCornersIdempotentSpec.pre enc Tryd.prog Tryd.f4 [] false w args ∧ laidMetH Tryd.prog Rows.fnMangleCornersIdempotentRow.laid w) ∧ sizedMet enc Tryd.prog Tryd.f4 (OpenSpec.ofChange Rows.fnMangleCornersIdempotentSpec) false w args)
      (Rows.fnMangleCornersIdempotentSpec.post enc Tryd.prog Tryd.f4 false true false false) := by
  refine returnsInHanded_of_change_and (C := Tryd.checked) (X := fun w _ => laidMetH Tryd.prog Rows.fnMangleCornersIdempotentRow.laid w) (fun _ _ _ hh h => h.of_heap hh) own started (by kernel_rfl) Tryd.func4
    (ChangeSpec.witness_shaped (enc := enc) (C := Tryd.checked) (os := os) (X := fun w _ => laidMetH Tryd.prog Rows.fnMangleCornersIdempotentRow.laid w) false (laidWorld os) #[.slice none 0 0, .bool false, .bool false, .int .i32 0] 8 rfl (World.shaped_of_RefB (by kernel_rfl) (by kernel_rfl)) (by kernel_rfl) (by kernel_rfl) (by kernel_rfl) (laid_met os _)) ?_
  intro W base args ds gs before hval0 hW _ _ hL _
  have hval : ∀ (j : Nat) t v, Tryd.f4.params[j]? = some t → args[j]? = some v → Value.okWide Tryd.prog W .any base t v := hval0
  have hW' := hW
  obtain ⟨p, q, hA0, hV, rfl, hfz, hnd⟩ := hW
  have hA : DataW.TrodAll enc Tryd.prog W 0 (fun _ => true) true Tryd.f4.params.toList args.toList ds p := hA0
  rw [Tryd.params4] at hA hval
  obtain ⟨v0, vs0, d0, ds0, p0, q0, hargs, rfl, rfl, h0, r0⟩ := trodAll_cons hA
  obtain ⟨v1, vs1, d1, ds1, p1, q1, rfl, rfl, rfl, h1, r1⟩ := trodAll_cons r0
  obtain ⟨v2, vs2, d2, ds2, p2, q2, rfl, rfl, rfl, h2, r2⟩ := trodAll_cons r1
  obtain ⟨v3, vs3, d3, ds3, p3, q3, rfl, rfl, rfl, h3, r3⟩ := trodAll_cons r2
  obtain ⟨rfl, rfl, rfl⟩ := trodAll_nil r3
  obtain rfl : args = #[v0, v1, v2, v3] := by cases args; simp_all
  obtain ⟨rfl, rfl⟩ := trodVars_none hV
  have k0 := h0
  have lt0 : ∀ x ∈ p0, x.block < W.heap.size := by obtain ⟨m, hm⟩ := k0; exact DataW.trod_lt m _ _ _ hm
  obtain ⟨a0, n0, c0, f0, rfl, w0⟩ := arg_ints Tryd.underlying57 Tryd.underlying5 (by kernel_rfl) (hval 0 57 v0 rfl rfl) h0
  obtain ⟨a1, rfl, rfl, rfl⟩ := open_bool Tryd.underlying4 (hval 1 4 v1 rfl rfl) h1
  obtain ⟨a2, rfl, rfl, rfl⟩ := open_bool Tryd.underlying4 (hval 2 4 v2 rfl rfl) h2
  obtain ⟨a3, rfl, rfl, rfl, w3⟩ := open_int Tryd.underlying21 (hval 3 21 v3 rfl rfl) h3
  clear hA0 hval0
  refine (law4_c a0 n0 c0 f0 a1 a2 a3 W w0.nil w0.row (fun i hi => wf_u8 (w0.wf i hi))).mono fun e W' ⟨he, bel⟩ => ?_
  subst he
  exact ⟨_, rfl, _, _, _, [], _, [], hW', trodAll_mk1 (shut_bool Tryd.underlying4 _), (trodAll_cons_mk (Below.trod laidOut (by kernel_rfl) (of_decide_eq_true (by kernel_rfl)) k0 bel lt0) (trodAll_cons_mk (shut_bool Tryd.underlying4 a1) (trodAll_cons_mk (shut_bool Tryd.underlying4 a2) (trodAll_cons_mk (shut_int Tryd.underlying21 w3) trodAll_mk0)))), rfl, bel.frame _, fun h => by cases h⟩
theorem over : Rows.FnMangleCornersIdempotentSaid :=
  OpenClaim.holds_of_wide 4 Tryd.f4 rfl rfl rfl rfl rfl rfl rfl ⟨rfl, rfl, rfl, rfl, rfl⟩ rfl rfl rfl rfl rfl (by kernel_rfl) Tryd.func4 (by kernel_rfl)
    (of_decide_eq_true (by kernel_rfl)) (by unfold Func.isWrapper; first | (rw [if_pos (by decide +kernel)]; kernel_rfl) | (rw [if_neg (by decide +kernel)]; exact ⟨rfl, rfl⟩))
    (fun os started H enc _ => lifted os started H enc)
theorem proved : Rows.FnMangleCornersIdempotentCardSaid :=
  Claim7.holds_tied_plain_at .later [] [.data, .pinned, .pinned] true (true, "0f3f69fea12aade1bec0c5cd15b3c35e55554c4f051137423ba9b89b57f11424") true
    over (fun _ h => by cases h) (by kernel_rfl) (fun _ h => by cases h) fnMangleCornersIdempotent_row_tie rfl ⟨rfl, rfl⟩ (by kernel_rfl) rfl
    (fun f fn hf hfn => by
      obtain rfl : f = 4 := Option.some.inj ((show Tryd.prog.funcNamed "github.com/evanw/esbuild/n011_161.FnMangleCornersIdempotent" = some 4 by kernel_rfl).symm.trans hf) |>.symm
      obtain rfl : fn = Tryd.f4 := (Option.some.inj (Tryd.func4.symm.trans hfn)).symm
      exact ⟨by kernel_rfl, fun j t ht => by
        rw [Tryd.params4] at ht
        have hm : t ∈ [57, 4, 4, 21] := by simpa using Array.mem_of_getElem? ht
        have hall : ([57, 4, 4, 21].all fun u => !Tryd.prog.wantsStandIn u) = true := by kernel_rfl
        exact (show Tryd.prog.wantsStandIn t = false by simpa using List.all_eq_true.1 hall t hm)⟩)
    (by kernel_rfl)
#print axioms proved
end Go.Proofs.YthdogpahkglaoaaDoor.fnMangleCornersIdempotent

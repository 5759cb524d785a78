/- FnLaterShorthandOrLonghandWins returns true at every argument (a longhand and a shorthand of border-radius, in either order); the three listed tables are tied to the program's text (the card). -/
import Derived.Test.YthdogpahkglaoaaDoorBcg
import Derived.Test.YthdogpahkglaoaaDoorSh
import Derived.Test.YthdogpahkglaoaaDoorCards
import Derived.Test.YthdogpahkglaoaaDoorTie
import Derived.Lib.LaidCaseMet
import Derived.Lib.LaidU8
import Derived.PinnedBridge
import Derived.LaidMore
import Derived.MakeChecks
import Derived.Stop.Joined
import Derived.SevenTiedAt
import Derived.OpenShut
import Derived.ChangeOld
import Derived.WideShapes
import Derived.Laws.Cover2
set_option linter.unusedVariables false
set_option linter.unusedSimpArgs false
namespace Go.Proofs.YthdogpahkglaoaaDoor.fnLaterShorthandOrLonghandWins
open Go.ChangeShapes Go.WideShapes Go.ChangeAt Go.RowKit Go.Shelf
open Go.ChangeMaps (open_string shut_string)
theorem own : ownKnob Tryd.prog.godebug = none := by kernel_rfl
theorem laidOut : laidOutB Tryd.prog = true := by kernel_rfl
theorem accept_eq : Rows.laid_unicode_utf8_acceptRanges (H := Unit) = Lib.acceptData := by kernel_rfl
/-- the witness: the settled world with one block more (the rows of unicode.CaseRanges), the three variables holding what their initialisers lay -/
noncomputable def laidWorld (os : Go.Os) : World :=
  let N := (World.settled Tryd.prog os).heap.size
  let w0 := World.holding Tryd.prog os ⟨#[.cells Lib.caseCells5 (Tryd.lays159_ren.t 208)], #[], []⟩
  let put (h : Array Obj) (g : Nat) (cs : Array Value) : Array Obj := h.modify g fun
    | .cells _ t frozen => .cells cs t frozen
    | o => o
  let h2 := put w0.heap 2 (Lib.firstTab.map fun z => Value.int .u8 z).toArray
  let h3 := put h2 3 ((List.range 16).flatMap fun i => [Value.int .u8 (Lib.accLo i), Value.int .u8 (Lib.accHi i)]).toArray
  let h5 := put h3 0 #[.slice (some ⟨N, 0, none⟩) 336 336]
  { w0 with heap := h5 }
theorem caseX : CaseExtra Tryd.prog Tryd.lays159_ren := ⟨by kernel_rfl, by kernel_rfl, by kernel_rfl, by kernel_rfl, by kernel_rfl, by kernel_rfl⟩
theorem laid_met0 (os : Go.Os) (args : Array Value) : laidMet Tryd.prog ([("unicode/utf8.acceptRanges", Lib.acceptData), ("unicode/utf8.first", Lib.firstData)] ++ [("unicode.CaseRanges", Lib.caseData)]) ((laidWorld os).forCall (fun _ _ => 0) ⟨#[], args, []⟩).memory :=
  laidMet_with_case (ρ := Tryd.lays159_ren) { Tryd.lays159 with } Tryd.lays159.t206 caseX
    (l := [("unicode/utf8.acceptRanges", Lib.acceptData), ("unicode/utf8.first", Lib.firstData)])
    10 (by kernel_rfl) (by kernel_rfl) (by kernel_rfl) ((World.settled Tryd.prog default).heap.size) (Tryd.lays159_ren.t 208) (of_decide_eq_true (by kernel_rfl)) (by kernel_rfl) (by kernel_rfl) (by kernel_rfl)
theorem laid_perm {P : Program} {w : World} {x y z : String × DataW Unit} (h : laidMet P ([x, y] ++ [z]) w) : laidMet P [x, z, y] w := by
  obtain ⟨n0, d0⟩ := x
  obtain ⟨n1, d1⟩ := y
  obtain ⟨n2, d2⟩ := z
  obtain ⟨ps, ⟨g0, t0, cs0, f0, p0, q0, a1, a2, a3, a4, ⟨g1, t1, cs1, f1, p1, q1, b1, b2, b3, b4, ⟨g2, t2, cs2, f2, p2, q2, c1, c2, c3, c4, c5, rfl⟩, rfl⟩, rfl⟩, hnd, hr⟩ := h
  have hq : q2 = [] := c5
  subst hq
  have hp : ((MemPlace.row ⟨g0, 0, none⟩ cs0.size ++ p0) ++ ((MemPlace.row ⟨g1, 0, none⟩ cs1.size ++ p1) ++ ((MemPlace.row ⟨g2, 0, none⟩ cs2.size ++ p2) ++ []))).Perm ((MemPlace.row ⟨g0, 0, none⟩ cs0.size ++ p0) ++ ((MemPlace.row ⟨g2, 0, none⟩ cs2.size ++ p2) ++ ((MemPlace.row ⟨g1, 0, none⟩ cs1.size ++ p1) ++ []))) := by
    refine List.Perm.append_left _ ?_
    rw [List.append_nil, List.append_nil]
    exact List.perm_append_comm
  refine ⟨_, ⟨g0, t0, cs0, f0, p0, _, a1, a2, a3, a4, ⟨g2, t2, cs2, f2, p2, _, c1, c2, c3, c4, ⟨g1, t1, cs1, f1, p1, [], b1, b2, b3, b4, rfl, rfl⟩, rfl⟩, rfl⟩, hp.nodup_iff.1 hnd, fun b off hm => hr b off (hp.mem_iff.2 hm)⟩
theorem laid_met (os : Go.Os) (args : Array Value) : laidMetH Tryd.prog Rows.fnLaterShorthandOrLonghandWinsRow.laid ((laidWorld os).forCall (fun _ _ => 0) ⟨#[], args, []⟩).memory := by
  have h := laid_perm (laid_met0 os args)
  rw [MakeChecks.laidMetH_plain _ _ _ (by kernel_rfl)]
  show laidMet Tryd.prog [("unicode/utf8.acceptRanges", Rows.laid_unicode_utf8_acceptRanges), ("unicode.CaseRanges", Go.Pinned.caseRanges), ("unicode/utf8.first", Go.Pinned.utf8First)] _
  rw [accept_eq, Pinned.caseRanges_eq, Pinned.utf8First_eq]
  exact h
theorem wf_u8 {n : Int} (h : (Lit.int .u8 n).wf = true) : 0 ≤ n ∧ n ≤ 255 := by
  have e1 : IntKind.u8.min = 0 := by decide
  have e2 : IntKind.u8.max = 255 := by decide
  simp [Lit.wf] at h; omega
section
variable {H : Type} {enc : TypeId × Value → H} {P : Program} {w : World} {base : Nat} {spare : Nat → Bool} {held : Bool}
theorem okWide_array {r : Reach} {b0 n : Nat} {t e : TypeId} {v : Value} (ht : P.underlying t = some (.array n e)) (h : Value.okWide P w r b0 t v) : ∃ cs, v = .agg cs ∧ cs.size = P.cellsOf t := by
  simp only [Value.okWide, ht] at h
  obtain ⟨cs, h1, h2, _⟩ := h
  exact ⟨cs, h1, h2⟩
theorem arg_four {r : Reach} {b0 : Nat} {t e : TypeId} {v : Value} {d : DataW H} {p : List MemPlace} (ht : P.underlying t = some (.array 4 e)) (he : P.underlying e = some (.int .u8)) (hc : P.cellsOf e = 1) (hC : P.cellsOf t = 4)
    (hv : Value.okWide P w r b0 t v) (h : DataW.Trod enc P w base spare held t v d p) :
    ∃ a b c d : Int, v = .agg #[.int .u8 a, .int .u8 b, .int .u8 c, .int .u8 d] ∧ (0 ≤ a ∧ a ≤ 255) ∧ (0 ≤ b ∧ b ≤ 255) ∧ (0 ≤ c ∧ c ≤ 255) ∧ (0 ≤ d ∧ d ≤ 255) := by
  obtain ⟨cs, rfl, hz⟩ := okWide_array ht hv
  rw [hC] at hz
  obtain ⟨fuel, hf⟩ := h
  obtain ⟨xs, m, -, -, hl, hx, hi⟩ := DataW.trod_array ht hf
  have each : ∀ i (hi4 : i < 4), ∃ n, cs[i]'(by omega) = .int .u8 n ∧ 0 ≤ n ∧ n ≤ 255 := fun i hi4 => by
    have h1 := hi i hi4
    rw [hc, Nat.mul_one] at h1
    have hcs : (Value.agg cs).cells = cs := rfl
    have hys : xs[i]? = some (xs[i]'(by omega)) := List.getElem?_eq_getElem (by omega)
    rw [hys] at h1
    obtain ⟨b, hb, -, hw⟩ := DataW.trod_int he h1
    refine ⟨b, ?_, wf_u8 hw⟩
    have hlen : cs.toList.length = 4 := by simpa using hz
    have e1 : ((Value.agg cs).cells.toList.drop i).take 1 = [cs.toList[i]'(by omega)] := by
      rw [hcs, List.drop_eq_getElem_cons (by omega)]; rfl
    rw [e1] at hb
    simpa using hb
  obtain ⟨a, ha, wa⟩ := each 0 (by omega)
  obtain ⟨b, hb, wb⟩ := each 1 (by omega)
  obtain ⟨c, hc', wc⟩ := each 2 (by omega)
  obtain ⟨d, hd, wd⟩ := each 3 (by omega)
  refine ⟨a, b, c, d, ?_, wa, wb, wc, wd⟩
  congr 1
  refine Array.ext (by simpa using hz) fun i h1 h2 => ?_
  have hi4 : i < 4 := by omega
  match i, hi4 with
  | 0, _ => simpa using ha
  | 1, _ => simpa using hb
  | 2, _ => simpa using hc'
  | 3, _ => simpa using hd
end
set_option maxRecDepth 100000 in
theorem lifted (os : Go.Os) (started : os.Started) (H : Type) (enc : TypeId × Value → H) :
    ReturnsInHanded {} Tryd.checked os 3 .any (fun w args => (Rows.fnLaterShorthandOrLonghandWinsSpec.pre enc Tryd.prog Tryd.f3 [] false w args ∧ laidMetH Tryd.prog Rows.fnLaterShorthandOrLonghandWinsRow.laid w) ∧ sizedMet enc Tryd.prog Tryd.f3 (OpenSpec.ofChange Rows.fnLaterShorthandOrLonghandWinsSpec) false w args)
      (Rows.fnLaterShorthandOrLonghandWinsSpec.post enc Tryd.prog Tryd.f3 false true false false) := by
  refine returnsInHanded_of_change_and (C := Tryd.checked) (X := fun w _ => laidMetH Tryd.prog Rows.fnLaterShorthandOrLonghandWinsRow.laid w) (fun _ _ _ hh h => h.of_heap hh) own started (by kernel_rfl) Tryd.func3
    (ChangeSpec.witness_shaped (enc := enc) (C := Tryd.checked) (os := os) (X := fun w _ => laidMetH Tryd.prog Rows.fnLaterShorthandOrLonghandWinsRow.laid w) false (laidWorld os) #[.agg #[.int .u8 0, .int .u8 0, .int .u8 0, .int .u8 0], .int .u8 0, .int .u8 0, .bool false, .bool false, .bool false, .int .i32 0, .int .i32 0] 8 rfl (World.shaped_of_RefB (by kernel_rfl) (by kernel_rfl)) (by kernel_rfl) (by kernel_rfl) (by kernel_rfl) (laid_met os _)) ?_
  intro W base args ds gs before hval0 hW _ _ hL _
  have hval : ∀ (j : Nat) t v, Tryd.f3.params[j]? = some t → args[j]? = some v → Value.okWide Tryd.prog W .any base t v := hval0
  have hW' := hW
  obtain ⟨p, q, hA0, hV, rfl, hfz, hnd⟩ := hW
  have hA : DataW.TrodAll enc Tryd.prog W 0 (fun _ => true) true Tryd.f3.params.toList args.toList ds p := hA0
  rw [Tryd.params3] at hA hval
  obtain ⟨v0, vs0, d0, ds0, p0, q0, hargs, rfl, rfl, h0, r0⟩ := trodAll_cons hA
  obtain ⟨v1, vs1, d1, ds1, p1, q1, rfl, rfl, rfl, h1, r1⟩ := trodAll_cons r0
  obtain ⟨v2, vs2, d2, ds2, p2, q2, rfl, rfl, rfl, h2, r2⟩ := trodAll_cons r1
  obtain ⟨v3, vs3, d3, ds3, p3, q3, rfl, rfl, rfl, h3, r3⟩ := trodAll_cons r2
  obtain ⟨v4, vs4, d4, ds4, p4, q4, rfl, rfl, rfl, h4, r4⟩ := trodAll_cons r3
  obtain ⟨v5, vs5, d5, ds5, p5, q5, rfl, rfl, rfl, h5, r5⟩ := trodAll_cons r4
  obtain ⟨v6, vs6, d6, ds6, p6, q6, rfl, rfl, rfl, h6, r6⟩ := trodAll_cons r5
  obtain ⟨v7, vs7, d7, ds7, p7, q7, rfl, rfl, rfl, h7, r7⟩ := trodAll_cons r6
  obtain ⟨rfl, rfl, rfl⟩ := trodAll_nil r7
  obtain rfl : args = #[v0, v1, v2, v3, v4, v5, v6, v7] := by cases args; simp_all
  obtain ⟨rfl, rfl⟩ := trodVars_none hV
  have k0 := h0
  have lt0 : ∀ x ∈ p0, x.block < W.heap.size := by obtain ⟨m, hm⟩ := k0; exact DataW.trod_lt m _ _ _ hm
  obtain ⟨qa, qb, qc, qd, rfl, wa, wb, wc, wd⟩ := arg_four Tryd.underlying22 Tryd.underlying5 (by kernel_rfl) (by kernel_rfl) (hval 0 22 v0 rfl rfl) h0
  obtain ⟨a1, rfl, rfl, rfl, w1⟩ := open_int Tryd.underlying5 (hval 1 5 v1 rfl rfl) h1
  obtain ⟨a2, rfl, rfl, rfl, w2⟩ := open_int Tryd.underlying5 (hval 2 5 v2 rfl rfl) h2
  obtain ⟨a3, rfl, rfl, rfl⟩ := open_bool Tryd.underlying4 (hval 3 4 v3 rfl rfl) h3
  obtain ⟨a4, rfl, rfl, rfl⟩ := open_bool Tryd.underlying4 (hval 4 4 v4 rfl rfl) h4
  obtain ⟨a5, rfl, rfl, rfl⟩ := open_bool Tryd.underlying4 (hval 5 4 v5 rfl rfl) h5
  obtain ⟨a6, rfl, rfl, rfl, w6⟩ := open_int Tryd.underlying21 (hval 6 21 v6 rfl rfl) h6
  obtain ⟨a7, rfl, rfl, rfl, w7⟩ := open_int Tryd.underlying21 (hval 7 21 v7 rfl rfl) h7
  clear hA0 hval0
  refine (law_c qa qb qc qd a1 a2 a3 a4 a5 a6 a7 W wa wb wc wd (wf_u8 w1) (wf_u8 w2)).mono fun e W' ⟨he, bel⟩ => ?_
  subst he
  exact ⟨_, rfl, _, _, _, [], _, [], hW', trodAll_mk1 (shut_bool Tryd.underlying4 _), (trodAll_cons_mk (Below.trod laidOut (by kernel_rfl) (of_decide_eq_true (by kernel_rfl)) k0 bel lt0) (trodAll_cons_mk (shut_int Tryd.underlying5 w1) (trodAll_cons_mk (shut_int Tryd.underlying5 w2) (trodAll_cons_mk (shut_bool Tryd.underlying4 a3) (trodAll_cons_mk (shut_bool Tryd.underlying4 a4) (trodAll_cons_mk (shut_bool Tryd.underlying4 a5) (trodAll_cons_mk (shut_int Tryd.underlying21 w6) (trodAll_cons_mk (shut_int Tryd.underlying21 w7) trodAll_mk0)))))))), rfl, bel.frame _, fun h => by cases h⟩
theorem over : Rows.FnLaterShorthandOrLonghandWinsSaid :=
  OpenClaim.holds_of_wide 3 Tryd.f3 rfl rfl rfl rfl rfl rfl rfl ⟨rfl, rfl, rfl, rfl, rfl⟩ rfl rfl rfl rfl rfl (by kernel_rfl) Tryd.func3 (by kernel_rfl)
    (of_decide_eq_true (by kernel_rfl)) (by unfold Func.isWrapper; first | (rw [if_pos (by decide +kernel)]; kernel_rfl) | (rw [if_neg (by decide +kernel)]; exact ⟨rfl, rfl⟩))
    (fun os started H enc _ => lifted os started H enc)
theorem proved : Rows.FnLaterShorthandOrLonghandWinsCardSaid :=
  Claim7.holds_tied_plain_at .later [] [.data, .pinned, .pinned] true (true, "0f3f69fea12aade1bec0c5cd15b3c35e55554c4f051137423ba9b89b57f11424") true
    over (fun _ h => by cases h) (by kernel_rfl) (fun _ h => by cases h) fnLaterShorthandOrLonghandWins_row_tie rfl ⟨rfl, rfl⟩ (by kernel_rfl) rfl
    (fun f fn hf hfn => by
      obtain rfl : f = 3 := Option.some.inj ((show Tryd.prog.funcNamed "github.com/evanw/esbuild/n011_161.FnLaterShorthandOrLonghandWins" = some 3 by kernel_rfl).symm.trans hf) |>.symm
      obtain rfl : fn = Tryd.f3 := (Option.some.inj (Tryd.func3.symm.trans hfn)).symm
      exact ⟨by kernel_rfl, fun j t ht => by
        rw [Tryd.params3] at ht
        have hm : t ∈ [22, 5, 5, 4, 4, 4, 21, 21] := by simpa using Array.mem_of_getElem? ht
        have hall : ([22, 5, 5, 4, 4, 4, 21, 21].all fun u => !Tryd.prog.wantsStandIn u) = true := by kernel_rfl
        exact (show Tryd.prog.wantsStandIn t = false by simpa using List.all_eq_true.1 hall t hm)⟩)
    (by kernel_rfl)
#print axioms proved
end Go.Proofs.YthdogpahkglaoaaDoor.fnLaterShorthandOrLonghandWins

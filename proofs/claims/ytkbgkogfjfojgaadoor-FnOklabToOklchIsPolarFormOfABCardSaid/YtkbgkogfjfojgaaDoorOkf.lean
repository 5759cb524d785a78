/- FnOklabToOklchIsPolarFormOfAB returns true at every argument (hue and chroma, turned back, give a and b again); the three listed tables are tied to the program's text (the card). -/
import Derived.Test.YtkbgkogfjfojgaaDoorLwk
import Derived.Lib.LaidU8
import Derived.Test.YtkbgkogfjfojgaaDoorCards
import Derived.Test.YtkbgkogfjfojgaaDoorTie
import Derived.Lay
import Derived.LaidMore
import Derived.MakeChecks
import Derived.Stop.Joined
import Derived.SevenTiedAt
import Derived.OpenShut
import Derived.ChangeOld
import Derived.WideShapes
import Derived.Laws.Cover2
set_option linter.unusedVariables false
set_option linter.unusedSimpArgs false
namespace Go.Proofs.YtkbgkogfjfojgaaDoor.fnOklabToOklchIsPolarFormOfAB
open Go.ChangeShapes Go.WideShapes Go.ChangeAt Go.RowKit
open Go.ChangeMaps (open_string shut_string)
theorem own : ownKnob Tryd.prog.godebug = none := by kernel_rfl
theorem laidOut : laidOutB Tryd.prog = true := by kernel_rfl
theorem laid_met (os : Go.Os) (args : Array Value) : laidMetH Tryd.prog Rows.fnOklabToOklchIsPolarFormOfABRow.laid ((World.laidAll Tryd.prog os Rows.fnOklabToOklchIsPolarFormOfABRow.laid).forCall (fun _ _ => 0) ⟨#[], args, []⟩).memory := by
  rw [MakeChecks.laidMetH_plain _ _ _ (by kernel_rfl)]
  exact laidMet_laidAll args (by kernel_rfl) (by kernel_rfl)
theorem float_of {fuel : Nat} {cs : List Value} {q : List MemPlace} {x : Nat} {W : World} (h : DataW.trod (fun _ => ()) Tryd.prog W 0 (fun _ => true) false fuel 22 cs = some (.lit (.float .f64 x), q)) : cs = [.float .f64 x] := by
  cases fuel with
  | zero => simp [DataW.trod] at h
  | succ fuel =>
    simp only [DataW.trod, Tryd.underlying22] at h
    split at h <;> simp_all
theorem tab_cell {W : World} {n : String} {g t : Nat} (xs : List Nat) (hn : Tryd.prog.globalNamed n = some g) (hy : (Tryd.prog.globals[g]?).map (·.type) = some t) (ht : Tryd.prog.underlying t = some (.array 6 22)) (hc : Tryd.prog.cellsOf 22 = 1)
    (h : Lib.VarReads Tryd.prog W n (.agg (xs.map fun x => .lit (.float .f64 x)))) (i x : Nat) (hi : i < 6) (hx : xs[i]? = some x) : W.cell? ⟨g, i, none⟩ = some (.float .f64 x) := by
  obtain ⟨g', t', cs, fuel, p, hg, hty, hvar, hd⟩ := h
  obtain rfl := Option.some.inj (hn.symm.trans hg)
  obtain rfl := Option.some.inj (hy.symm.trans hty)
  obtain ⟨fuel', d, q, hdi, he⟩ := Lib.array_elem ht hd i hi
  rw [List.getElem?_map, hx] at hdi
  simp only [Option.map_some, Option.some.injEq] at hdi
  subst hdi
  rw [hc] at he
  have e0 := float_of he
  have e1 := congrArg (·[0]?) e0
  simp only [List.getElem?_take, List.getElem?_drop] at e1
  rw [World.var?_cell hg hvar i, ← Array.getElem?_toList]
  simpa using e1
theorem tab_of {W : World} (h : laidMetH Tryd.prog Rows.fnOklabToOklchIsPolarFormOfABRow.laid W) : Tab W := by
  rw [MakeChecks.laidMetH_plain _ _ _ (by kernel_rfl)] at h
  have h2 : laidMet Tryd.prog [("math._sin", Rows.laid_math_sin), ("math._cos", Rows.laid_math_cos), ("math.mPi4", Rows.laid_math_mPi4)] W := h
  have S := Lib.laidMet.reads h2 (.head _)
  have C := Lib.laidMet.reads h2 (.tail _ (.head _))
  have s := fun i x hi hx => tab_cell [4460209587652500685, 13716528389658582877, 4523617212962785441, 13774824197404483331, 4575957461383575504, 13818544856648471880] (n := "math._sin") (g := 1) (by kernel_rfl) (t := 42) (by kernel_rfl) Tryd.underlying42 (by kernel_rfl) S i x hi hx
  have c := fun i x hi hx => tab_cell [13666448263388469915, 4477121864728985349, 13732177093698800582, 4537941361668146421, 13787419979223748497, 4586165620538955083] (n := "math._cos") (g := 2) (by kernel_rfl) (t := 42) (by kernel_rfl) Tryd.underlying42 (by kernel_rfl) C i x hi hx
  exact ⟨s 0 _ (by decide) rfl, s 1 _ (by decide) rfl, s 2 _ (by decide) rfl, s 3 _ (by decide) rfl, s 4 _ (by decide) rfl, s 5 _ (by decide) rfl, c 0 _ (by decide) rfl, c 1 _ (by decide) rfl, c 2 _ (by decide) rfl, c 3 _ (by decide) rfl, c 4 _ (by decide) rfl, c 5 _ (by decide) rfl⟩
set_option maxRecDepth 100000 in
theorem lifted (os : Go.Os) (started : os.Started) (H : Type) (enc : TypeId × Value → H) :
    ReturnsInHanded {} Tryd.checked os 3 .any (fun w args => (Rows.fnOklabToOklchIsPolarFormOfABSpec.pre enc Tryd.prog Tryd.f3 [] false w args ∧ laidMetH Tryd.prog Rows.fnOklabToOklchIsPolarFormOfABRow.laid w) ∧ sizedMet enc Tryd.prog Tryd.f3 (OpenSpec.ofChange Rows.fnOklabToOklchIsPolarFormOfABSpec) false w args)
      (Rows.fnOklabToOklchIsPolarFormOfABSpec.post enc Tryd.prog Tryd.f3 false true false false) := by
  refine returnsInHanded_of_change_and (C := Tryd.checked) (X := fun w _ => laidMetH Tryd.prog Rows.fnOklabToOklchIsPolarFormOfABRow.laid w) (fun _ _ _ hh h => h.of_heap hh) own started (by kernel_rfl) Tryd.func3
    (ChangeSpec.witness_shaped (enc := enc) (C := Tryd.checked) (os := os) (X := fun w _ => laidMetH Tryd.prog Rows.fnOklabToOklchIsPolarFormOfABRow.laid w) false (World.laidAll Tryd.prog os Rows.fnOklabToOklchIsPolarFormOfABRow.laid) #[.float .f64 0, .float .f64 0, .float .f64 0] 8 (World.laidAll_os _ _ _) (World.shaped_of_RefB (by kernel_rfl) (by kernel_rfl)) (by kernel_rfl) (by kernel_rfl) (by kernel_rfl) (laid_met os _)) ?_
  intro W base args ds gs before hval0 hW _ _ hL _
  have hval : ∀ (j : Nat) t v, Tryd.f3.params[j]? = some t → args[j]? = some v → Value.okWide Tryd.prog W .any base t v := hval0
  have hW' := hW
  obtain ⟨p, q, hA0, hV, rfl, hfz, hnd⟩ := hW
  have hA : DataW.TrodAll enc Tryd.prog W 0 (fun _ => true) true Tryd.f3.params.toList args.toList ds p := hA0
  rw [Tryd.params3] at hA hval
  obtain ⟨v0, vs0, d0, ds0, p0, q0, hargs, rfl, rfl, h0, r0⟩ := trodAll_cons hA
  obtain ⟨v1, vs1, d1, ds1, p1, q1, rfl, rfl, rfl, h1, r1⟩ := trodAll_cons r0
  obtain ⟨v2, vs2, d2, ds2, p2, q2, rfl, rfl, rfl, h2, r2⟩ := trodAll_cons r1
  obtain ⟨rfl, rfl, rfl⟩ := trodAll_nil r2
  obtain rfl : args = #[v0, v1, v2] := by cases args; simp_all
  obtain ⟨rfl, rfl⟩ := trodVars_none hV
  obtain ⟨a0, rfl, rfl, rfl, w0⟩ := open_float Tryd.underlying22 (hval 0 22 v0 rfl rfl) h0
  obtain ⟨a1, rfl, rfl, rfl, w1⟩ := open_float Tryd.underlying22 (hval 1 22 v1 rfl rfl) h1
  obtain ⟨a2, rfl, rfl, rfl, w2⟩ := open_float Tryd.underlying22 (hval 2 22 v2 rfl rfl) h2
  clear hA0 hval0
  refine (law_c a0 a1 a2 W (Flt.wf_lt w1) (Flt.wf_lt w2) (tab_of hL)).mono fun e W' ⟨he, bel⟩ => ?_
  subst he
  exact ⟨_, rfl, _, _, _, [], _, [], hW', trodAll_mk1 (shut_bool Tryd.underlying4 _), (trodAll_cons_mk (shut_float Tryd.underlying22 w0) (trodAll_cons_mk (shut_float Tryd.underlying22 w1) (trodAll_cons_mk (shut_float Tryd.underlying22 w2) trodAll_mk0))), rfl, bel.frame _, fun h => by cases h⟩
theorem over : Rows.FnOklabToOklchIsPolarFormOfABSaid :=
  OpenClaim.holds_of_wide 3 Tryd.f3 rfl rfl rfl rfl rfl rfl rfl ⟨rfl, rfl, rfl, rfl, rfl⟩ rfl rfl rfl rfl rfl (by kernel_rfl) Tryd.func3 (by kernel_rfl)
    (of_decide_eq_true (by kernel_rfl)) (by unfold Func.isWrapper; first | (rw [if_pos (by decide +kernel)]; kernel_rfl) | (rw [if_neg (by decide +kernel)]; exact ⟨rfl, rfl⟩))
    (fun os started H enc _ => lifted os started H enc)
theorem proved : Rows.FnOklabToOklchIsPolarFormOfABCardSaid :=
  Claim7.holds_tied_plain_at .later [] [.data, .data, .data] true (true, "b86b7532aad99c3b70635afe49586fe35b36753c2a81078c454f83de8a4ccd5e") false
    over (fun _ h => by cases h) (by kernel_rfl) (fun _ h => by cases h) fnOklabToOklchIsPolarFormOfAB_row_tie rfl ⟨rfl, rfl⟩ (by kernel_rfl) rfl
    (fun f fn hf hfn => by
      obtain rfl : f = 3 := Option.some.inj ((show Tryd.prog.funcNamed "github.com/evanw/esbuild/n011_191.FnOklabToOklchIsPolarFormOfAB" = some 3 by kernel_rfl).symm.trans hf) |>.symm
      obtain rfl : fn = Tryd.f3 := (Option.some.inj (Tryd.func3.symm.trans hfn)).symm
      exact ⟨by kernel_rfl, fun j t ht => by
        rw [Tryd.params3] at ht
        have hm : t ∈ [22, 22, 22] := by simpa using Array.mem_of_getElem? ht
        have hall : ([22, 22, 22].all fun u => !Tryd.prog.wantsStandIn u) = true := by kernel_rfl
        exact (show Tryd.prog.wantsStandIn t = false by simpa using List.all_eq_true.1 hall t hm)⟩)
    (by kernel_rfl)
#print axioms proved
end Go.Proofs.YtkbgkogfjfojgaaDoor.fnOklabToOklchIsPolarFormOfAB

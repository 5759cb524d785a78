/- FnContainerNameExact returns true at every argument; the listed variables are tied to the program's text (the card). -/
import Derived.Test.YtoebloceibfboaaDoorSyw
import Derived.Test.YtoebloceibfboaaDoorCn4
import Derived.Test.YtoebloceibfboaaDoorCards
import Derived.Test.YtoebloceibfboaaDoorTie
import Derived.OpenVars
import Derived.Stop.Joined
import Derived.SevenTiedAt
set_option linter.unusedVariables false
set_option linter.unusedSimpArgs false
namespace Go.Proofs.YtoebloceibfboaaDoor.fnContainerNameExact
open Go.ChangeShapes Go.WideShapes Go.ChangeAt Go.RowKit Go.Shelf
open Go.ChangeMaps (open_string shut_string)
theorem own : ownKnob Tryd.prog.godebug = none := by kernel_rfl
theorem laidOut : laidOutB Tryd.prog = true := by kernel_rfl
def zOf (g : Nat → Nat → Value) (i : Nat) : ZT := ⟨intOf (g i 0), strV (g i 1)⟩
theorem zl_arg {w : World} {a : Option Addr} {n c : Nat} {g : Nat → Nat → Value} (h : ArgT [.int .u8, .str] w a n c g) : ZL w a n (zOf g) ∧ ∀ i, i < n → (zOf g i).tx.size ≤ maxLen := by
  have key : ∀ i, i < n → ∃ x, a = some x ∧ (∃ k, g i 0 = .int .u8 k ∧ w.cell? (x.add (i * 2)) = some (.int .u8 k)) ∧ ∃ s : ByteArray, g i 1 = .string s ∧ s.size ≤ maxLen ∧ w.cell? (x.add (i * 2 + 1)) = some (.string s) := fun i hi => by
    obtain ⟨x, e, hx⟩ := h.row i hi
    obtain ⟨c0, ok0⟩ := hx 0 (.int .u8) rfl
    obtain ⟨c1, ok1⟩ := hx 1 .str rfl
    obtain ⟨k, ek, -⟩ := ok0
    obtain ⟨s, es, hs⟩ := ok1
    rw [ek] at c0
    rw [es] at c1
    exact ⟨x, e, ⟨k, ek, c0⟩, s, es, hs, c1⟩
  refine ⟨fun i hi => ?_, fun i hi => ?_⟩
  · obtain ⟨x, e, ⟨k, ek, c0⟩, s, es, hs, c1⟩ := key i hi
    refine ⟨x, e, ?_, ?_⟩
    · rw [c0]; unfold zOf; rw [ek]; rfl
    · rw [c1]; unfold zOf; rw [es]; rfl
  · obtain ⟨x, e, -, s, es, hs, -⟩ := key i hi
    unfold zOf; rw [es]; exact hs
set_option maxRecDepth 100000 in
theorem lifted (os : Go.Os) (started : os.Started) (H : Type) (enc : TypeId × Value → H) :
    ReturnsInHanded {} Tryd.checked os 4 .any (fun w args => (Rows.fnContainerNameExactSpec.pre enc Tryd.prog Tryd.f4 [] false w args ∧ laidMetH Tryd.prog Rows.fnContainerNameExactRow.laid w) ∧ sizedMet enc Tryd.prog Tryd.f4 (OpenSpec.ofChange Rows.fnContainerNameExactSpec) false w args)
      (Rows.fnContainerNameExactSpec.post enc Tryd.prog Tryd.f4 false true false false) := by
  refine returnsInHanded_of_change_and (C := Tryd.checked) (X := fun w _ => laidMetH Tryd.prog Rows.fnContainerNameExactRow.laid w) (fun _ _ _ hh h => h.of_heap hh) own started (by kernel_rfl) Tryd.func4
    (ChangeSpec.witness_shaped (enc := enc) (C := Tryd.checked) (os := os) (X := fun w _ => laidMetH Tryd.prog Rows.fnContainerNameExactRow.laid w) false (laidW os) #[.slice none 0 0, .bool false] 8 (laidW_os _) (World.shaped_of_RefB (by kernel_rfl) (by kernel_rfl)) (by kernel_rfl) (by kernel_rfl) (by kernel_rfl) (laid_met os _)) ?_
  intro W base args ds gs before hval0 hW _ _ hL _
  have hval : ∀ (j : Nat) t v, Tryd.f4.params[j]? = some t → args[j]? = some v → Value.okWide Tryd.prog W .any base t v := hval0
  have hW' := hW
  obtain ⟨p, q, hA0, hV0, rfl, hfz, hnd⟩ := hW
  have hA : DataW.TrodAll enc Tryd.prog W 0 (fun _ => true) true Tryd.f4.params.toList args.toList ds p := hA0
  have hV : DataW.TrodVars enc Tryd.prog W (fun _ => true) [nMap, nInv] gs q := hV0
  rw [Tryd.params4] at hA hval
  obtain ⟨v0, vs0, d0, ds0, p0, q0, hargs, rfl, rfl, h0, r0⟩ := trodAll_cons hA
  obtain ⟨v1, vs1, d1, ds1, p1, q1, rfl, rfl, rfl, h1, r1⟩ := trodAll_cons r0
  obtain ⟨rfl, rfl, rfl⟩ := trodAll_nil r1
  obtain rfl : args = #[v0, v1] := by cases args; simp_all
  obtain ⟨dv, dv2, rfl⟩ : ∃ dv dv2, gs = [dv, dv2] := by
    obtain ⟨g0, t0, cs0, f0, d0, p0, g1, t1, cs1, f1, d1, p1, e, -⟩ := trodVars_two hV
    exact ⟨d0, d1, e⟩
  have k0 := h0
  have lt0 : ∀ x ∈ p0, x.block < W.heap.size := by obtain ⟨m, hm⟩ := k0; exact DataW.trod_lt m _ _ _ hm
  obtain ⟨a0, n0, c0, g0, rfl, w0⟩ := arg_structs [.int .u8, .str] Tryd.underlying41 Tryd.underlying49 (by kernel_rfl) (by kernel_rfl) rfl (by
    intro j f k hf hk
    match j with
    | 0 => cases hf; cases hk; exact Tryd.underlying5
    | 1 => cases hf; cases hk; exact Tryd.underlying9
    | j + 2 => simp at hk) (hval 0 41 v0 rfl rfl) h0
  obtain ⟨a1, rfl, rfl, rfl⟩ := open_bool Tryd.underlying4 (hval 1 4 v1 rfl rfl) h1
  clear hA0 hval0
  have hI := inv_of hL
  have hG := block_lt_of_cell hI.c0
  have hZ : ZL W a0 n0 (zOf g0) ∧ ∀ i, i < n0 → (zOf g0 i).tx.size ≤ maxLen := zl_arg w0
  refine (walk4 resM resOk a0 n0 c0 (zOf g0) a1 W (low_of hL) (res_of hL) hI hG hZ.1 (Nat.le_trans w0.le w0.max) w0.nil hZ.2).mono fun e W' ⟨he, bel⟩ => ?_
  subst he
  exact ⟨_, rfl, _, _, _, [], _, _, hW', trodAll_mk1 (shut_bool Tryd.underlying4 _), (trodAll_cons_mk (Below.trod laidOut (by kernel_rfl) (of_decide_eq_true (by kernel_rfl)) k0 bel lt0) (trodAll_cons_mk (shut_bool Tryd.underlying4 a1) trodAll_mk0)), Below.trodVars laidOut bel (by kernel_rfl) hV, bel.frame _, fun h => by cases h⟩
theorem over : Rows.FnContainerNameExactSaid :=
  OpenClaim.holds_of_wide 4 Tryd.f4 rfl rfl rfl rfl rfl rfl rfl ⟨rfl, rfl, rfl, rfl, rfl⟩ rfl rfl rfl rfl rfl (by kernel_rfl) Tryd.func4 (by kernel_rfl)
    (of_decide_eq_true (by kernel_rfl)) (by unfold Func.isWrapper; first | (rw [if_pos (by decide +kernel)]; kernel_rfl) | (rw [if_neg (by decide +kernel)]; exact ⟨rfl, rfl⟩))
    (fun os started H enc _ => lifted os started H enc)
theorem proved : Rows.FnContainerNameExactCardSaid :=
  Claim7.holds_tied_plain_at .later [] [.data, .data, .mapped, .pinned, .pinned] true (true, "6bbb3c937e0b6c647f0f5325ee68b65333edbca3a07d58ccd0f1e8c77e0446c2") false
    over (fun _ h => by cases h) (by kernel_rfl) (fun _ h => by cases h) fnContainerNameExact_row_tie rfl ⟨rfl, rfl⟩ (by kernel_rfl) rfl
    (fun f fn hf hfn => by
      obtain rfl : f = 4 := Option.some.inj ((show Tryd.prog.funcNamed "github.com/evanw/esbuild/n011_185.FnContainerNameExact" = some 4 by kernel_rfl).symm.trans hf) |>.symm
      obtain rfl : fn = Tryd.f4 := (Option.some.inj (Tryd.func4.symm.trans hfn)).symm
      exact ⟨by kernel_rfl, fun j t ht => by
        rw [Tryd.params4] at ht
        have hm : t ∈ [41, 4] := by simpa using Array.mem_of_getElem? ht
        have hall : ([41, 4].all fun u => !Tryd.prog.wantsStandIn u) = true := by kernel_rfl
        exact (show Tryd.prog.wantsStandIn t = false by simpa using List.all_eq_true.1 hall t hm)⟩)
    (by kernel_rfl)
#print axioms proved
end Go.Proofs.YtoebloceibfboaaDoor.fnContainerNameExact

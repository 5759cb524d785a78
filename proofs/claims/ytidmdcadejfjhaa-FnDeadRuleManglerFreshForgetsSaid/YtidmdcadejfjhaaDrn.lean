/- FnDeadRuleManglerFreshForgets returns true at every argument (no condition). -/
import Derived.Test.YtidmdcadejfjhaaDrm
set_option linter.unusedVariables false
set_option linter.unusedSimpArgs false
namespace Go.Proofs.Ytidmdcadejfjhaa.fnDeadRuleManglerFreshForgets
open Go.ChangeShapes Go.WideShapes Go.ChangeAt Go.RowKit
open Go.ChangeMaps (open_string shut_string)
set_option maxRecDepth 100000
set_option maxHeartbeats 4000000
theorem wf_u8 {n : Int} (h : (Lit.int .u8 n).wf = true) : 0 ≤ n ∧ n ≤ 255 := by
  have e1 : IntKind.u8.min = 0 := by decide
  have e2 : IntKind.u8.max = 255 := by decide
  simp [Lit.wf] at h; omega
theorem byt_of {w : World} {a : Option Addr} {n c : Nat} {f : Nat → Int} (h : ArgI .u8 w a n c f) (hn : n ≤ 1048576) : Byt w a n (fun i => if i < n then (f i).toNat else 0) := by
  refine ⟨fun i hi => ?_, fun i => ?_, fun i hi => if_neg (by omega), hn⟩
  · obtain ⟨x, e, hc⟩ := h.row i hi
    have := wf_u8 (h.wf i hi)
    refine ⟨x, e, ?_⟩
    simp only [if_pos hi]
    rw [hc, Int.toNat_of_nonneg this.1]
  · by_cases hi : i < n
    · have := wf_u8 (h.wf i hi)
      simp only [if_pos hi]
      omega
    · simp only [if_neg hi]
      omega
theorem walk (a0 : Option Addr) (n0 : Nat) (c0 : Nat) (f0 : Nat → Int) (a1 : Option Addr) (n1 : Nat) (c1 : Nat) (f1 : Nat → Int) (a2 : Option Addr) (n2 : Nat) (c2 : Nat) (f2 : Nat → Int) (a3 : Option Addr) (n3 : Nat) (c3 : Nat) (f3 : Nat → Int) (a4 : Option Addr) (n4 : Nat) (c4 : Nat) (f4 : Nat → Int) (w : World) (w0 : ArgI .u8 w a0 n0 c0 f0) (w1 : ArgI .u8 w a1 n1 c1 f1) (w2 : ArgI .u8 w a2 n2 c2 f2) (w3 : ArgI .u8 w a3 n3 c3 f3) (w4 : ArgI .u8 w a4 n4 c4 f4) :
    Calls Try.prog 3 #[.slice a0 n0 c0, .slice a1 n1 c1, .slice a2 n2 c2, .slice a3 n3 c3, .slice a4 n4 c4] w fun e w' => e = .returned (.bool true) ∧ Below w.heap.size w w' := by
  by_cases h : n0 ≤ 1048576 ∧ n1 ≤ 1048576 ∧ n2 ≤ 1048576 ∧ n3 ≤ 1048576 ∧ n4 ≤ 1048576
  · obtain ⟨l0, l1, l2, l3, l4⟩ := h
    exact law3_c a0 a1 a2 a3 a4 n0 n1 n2 n3 n4 c0 c1 c2 c3 c4 _ _ _ _ _ w (byt_of w0 l0) (byt_of w1 l1) (byt_of w2 l2) (byt_of w3 l3) (byt_of w4 l4)
  · have le0 := w0.le; have le1 := w1.le; have le2 := w2.le; have le3 := w3.le; have le4 := w4.le; have mx0 := w0.max; have mx1 := w1.max; have mx2 := w2.max; have mx3 := w3.max; have mx4 := w4.max
    have Z := Lib.hid (zz5_c a0 a1 a2 a3 a4 n0 n1 n2 n3 n4 c0 c1 c2 c3 c4 w (by omega) (by omega) (by omega) (by omega) (by omega))
    unfold maxLen at mx0 mx1 mx2 mx3 mx4
    replace h := Lib.hid h
    clear w0 w1 w2 w3 w4
    go_enter Try.func3, Try.ntmps3
    go_upto_region 3 with (go_at_call 5; (with_reducible refine Z.out.mono ?_); rintro e w' ⟨b, rfl, hbz, rfl⟩; replace hbz := Lib.hid hbz; cases b)
    · go_ret
      first | exact ⟨rfl, Below.refl _ _⟩ | exact ⟨trivial, Below.refl _ _⟩
    have hs := hbz.out (by simp)
    exact absurd ⟨by omega, by omega, by omega, by omega, by omega⟩ h.out
theorem own : ownKnob Try.prog.godebug = none := by kernel_rfl
theorem laidOut : laidOutB Try.prog = true := by kernel_rfl
set_option maxRecDepth 100000 in
theorem lifted (os : Go.Os) (started : os.Started) (H : Type) (enc : TypeId × Value → H) :
    ReturnsInHanded {} Try.checked os 3 .any (Rows.fnDeadRuleManglerFreshForgetsSpec.pre6 enc Try.prog Try.f3 Rows.fnDeadRuleManglerFreshForgetsRow.domain false) (Rows.fnDeadRuleManglerFreshForgetsSpec.post enc Try.prog Try.f3 false true false false) := by
  refine returnsInHanded_of_change (C := Try.checked) own started (by kernel_rfl) Try.func3
    (ChangeSpec.witness6 (enc := enc) (C := Try.checked) false ⟨#[], #[.slice none 0 0, .slice none 0 0, .slice none 0 0, .slice none 0 0, .slice none 0 0], []⟩ 8 (by kernel_rfl) (by kernel_rfl) (by kernel_rfl) (by kernel_rfl)) ?_
  intro W base args ds gs before hval0 hW hcnd _
  have hval : ∀ (j : Nat) t v, Try.f3.params[j]? = some t → args[j]? = some v → Value.okWide Try.prog W .any base t v := hval0
  have hW' := hW
  obtain ⟨p, q, hA0, hV, rfl, hfz, hnd⟩ := hW
  have hA : DataW.TrodAll enc Try.prog W 0 (fun _ => true) true Try.f3.params.toList args.toList ds p := hA0
  rw [Try.params3] at hA hval
  obtain ⟨v0, vs0, d0, ds0, p0, q0, hargs, rfl, rfl, h0, r0⟩ := trodAll_cons hA
  obtain ⟨v1, vs1, d1, ds1, p1, q1, rfl, rfl, rfl, h1, r1⟩ := trodAll_cons r0
  obtain ⟨v2, vs2, d2, ds2, p2, q2, rfl, rfl, rfl, h2, r2⟩ := trodAll_cons r1
  obtain ⟨v3, vs3, d3, ds3, p3, q3, rfl, rfl, rfl, h3, r3⟩ := trodAll_cons r2
  obtain ⟨v4, vs4, d4, ds4, p4, q4, rfl, rfl, rfl, h4, r4⟩ := trodAll_cons r3
  obtain ⟨rfl, rfl, rfl⟩ := trodAll_nil r4
  obtain rfl : args = #[v0, v1, v2, v3, v4] := by cases args; simp_all
  obtain ⟨rfl, rfl⟩ := trodVars_none hV
  have k0 := h0
  have lt0 : ∀ x ∈ p0, x.block < W.heap.size := by obtain ⟨m, hm⟩ := k0; exact DataW.trod_lt m _ _ _ hm
  obtain ⟨a0, n0, c0, f0, rfl, w0⟩ := arg_ints Try.underlying22 Try.underlying5 (by kernel_rfl) (hval 0 22 v0 rfl rfl) h0
  have k1 := h1
  have lt1 : ∀ x ∈ p1, x.block < W.heap.size := by obtain ⟨m, hm⟩ := k1; exact DataW.trod_lt m _ _ _ hm
  obtain ⟨a1, n1, c1, f1, rfl, w1⟩ := arg_ints Try.underlying22 Try.underlying5 (by kernel_rfl) (hval 1 22 v1 rfl rfl) h1
  have k2 := h2
  have lt2 : ∀ x ∈ p2, x.block < W.heap.size := by obtain ⟨m, hm⟩ := k2; exact DataW.trod_lt m _ _ _ hm
  obtain ⟨a2, n2, c2, f2, rfl, w2⟩ := arg_ints Try.underlying22 Try.underlying5 (by kernel_rfl) (hval 2 22 v2 rfl rfl) h2
  have k3 := h3
  have lt3 : ∀ x ∈ p3, x.block < W.heap.size := by obtain ⟨m, hm⟩ := k3; exact DataW.trod_lt m _ _ _ hm
  obtain ⟨a3, n3, c3, f3, rfl, w3⟩ := arg_ints Try.underlying22 Try.underlying5 (by kernel_rfl) (hval 3 22 v3 rfl rfl) h3
  have k4 := h4
  have lt4 : ∀ x ∈ p4, x.block < W.heap.size := by obtain ⟨m, hm⟩ := k4; exact DataW.trod_lt m _ _ _ hm
  obtain ⟨a4, n4, c4, f4, rfl, w4⟩ := arg_ints Try.underlying22 Try.underlying5 (by kernel_rfl) (hval 4 22 v4 rfl rfl) h4
  clear hA0 hval0
  refine (walk a0 n0 c0 f0 a1 n1 c1 f1 a2 n2 c2 f2 a3 n3 c3 f3 a4 n4 c4 f4 W w0 w1 w2 w3 w4).mono fun e W' ⟨he, bel⟩ => ?_
  subst he
  exact ⟨_, rfl, _, _, _, [], _, [], hW', trodAll_mk1 (shut_bool Try.underlying4 _), (trodAll_cons_mk (Below.trod laidOut (by kernel_rfl) (of_decide_eq_true (by kernel_rfl)) k0 bel lt0) (trodAll_cons_mk (Below.trod laidOut (by kernel_rfl) (of_decide_eq_true (by kernel_rfl)) k1 bel lt1) (trodAll_cons_mk (Below.trod laidOut (by kernel_rfl) (of_decide_eq_true (by kernel_rfl)) k2 bel lt2) (trodAll_cons_mk (Below.trod laidOut (by kernel_rfl) (of_decide_eq_true (by kernel_rfl)) k3 bel lt3) (trodAll_cons_mk (Below.trod laidOut (by kernel_rfl) (of_decide_eq_true (by kernel_rfl)) k4 bel lt4) trodAll_mk0))))), rfl, bel.frame _, fun h => by cases h⟩

theorem over : Rows.fnDeadRuleManglerFreshForgetsRow.holds Try.pinned (OpenSpec.ofChange Rows.fnDeadRuleManglerFreshForgetsSpec) :=
  OpenClaim.holds_of_wide 3 Try.f3 rfl rfl rfl rfl rfl rfl rfl ⟨rfl, rfl, rfl, rfl, rfl⟩ rfl rfl rfl rfl rfl (by kernel_rfl) Try.func3 (by kernel_rfl)
    (of_decide_eq_true (by kernel_rfl)) (by unfold Func.isWrapper; first | (rw [if_pos (by decide +kernel)]; kernel_rfl) | (rw [if_neg (by decide +kernel)]; exact ⟨rfl, rfl⟩))
    (fun os started H enc _ => lifted os started H enc)

theorem proved : Rows.FnDeadRuleManglerFreshForgetsSaid :=
  over
#print axioms proved
end Go.Proofs.Ytidmdcadejfjhaa.fnDeadRuleManglerFreshForgets

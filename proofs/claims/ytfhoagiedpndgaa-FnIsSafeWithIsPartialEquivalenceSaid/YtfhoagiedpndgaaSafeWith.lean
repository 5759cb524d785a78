/- Proved: for any three trackers (status byte and unit text) the law FnIsSafeWithIsPartialEquivalence returns true, and its arguments read afterwards as before. No condition. -/
import Derived.Test.YtfhoagiedpndgaaRows
import Derived.WalkKit
import Derived.ProofKit
import Derived.OpenShut
import Derived.ShutString
import Derived.WalkLawsBesides
import Derived.Outline
namespace Go.Proofs.Ytfhoagiedpndgaa.fnIsSafeWithIsPartialEquivalence
open Go.ChangeShapes Go.WideShapes Go.ChangeAt Go.RowKit
open Go.ChangeMaps (open_string shut_string)
set_option linter.unusedVariables false
theorem ret_bool {a b : Bool} (h : a = b) : Ending.returned (.bool a) = .returned (.bool b) := by rw [h]
theorem gtr {a b c : World} (h : Grown a b) (k : Grown b c) : Grown a c := ⟨World.keptBut_trans h.1 k.1, fun x => (k.2.1 x).trans (h.2.1 x), Nat.le_trans h.2.2 k.2.2⟩
def safeB (u1 : ByteArray) (s1 : Int) (u2 : ByteArray) (s2 : Int) : Bool := s1 == s2 && (s1 != 2 && (s1 != 1 || u1.toList == u2.toList))
theorem safe_symm (u1 : ByteArray) (s1 : Int) (u2 : ByteArray) (s2 : Int) : safeB u2 s2 u1 s1 = safeB u1 s1 u2 s2 := by
  unfold safeB
  by_cases h : s1 = s2
  · subst h
    rw [BEq.comm (a := u2.toList)]
  · have h2 : ¬ s2 = s1 := fun e => h e.symm
    rw [show (s1 == s2) = false by simp [h], show (s2 == s1) = false by simp [h2]]; rfl
theorem safe_trans (u1 : ByteArray) (s1 : Int) (u2 : ByteArray) (s2 : Int) (u3 : ByteArray) (s3 : Int) (h1 : safeB u1 s1 u2 s2 = true) (h2 : safeB u2 s2 u3 s3 = true) : safeB u1 s1 u3 s3 = true := by
  unfold safeB at *
  simp only [Bool.and_eq_true, Bool.or_eq_true, beq_iff_eq, bne_iff_ne, ne_eq] at *
  grind
theorem safe_self (u1 : ByteArray) (s1 : Int) : safeB u1 s1 u1 s1 = (s1 != 2) := by
  unfold safeB; simp
set_option maxHeartbeats 1000000 in
theorem safe_any (u1 : ByteArray) (s1 : Int) (u2 : ByteArray) (s2 : Int) (w : World) :
    Calls Try.prog 17 #[.string u1, .int .u8 s1, .string u2, .int .u8 s2] w fun e w' => e = .returned (.bool (safeB u1 s1 u2 s2)) ∧ Grown w w' := by
  go_enter Try.func17, Try.ntmps17
  go_wp2
  all_goals
    go_ret
    exact ⟨ret_bool (by simp_all [safeB]), by repeat (first | exact Grown.refl _ | apply Grown.drew | apply Grown.alloc)⟩
set_option maxHeartbeats 2000000 in
theorem walk (a0 : Int) (a1 : ByteArray) (a2 : Int) (a3 : ByteArray) (a4 : Int) (a5 : ByteArray) (w0 : (Lit.int .u8 a0).wf = true) (w1 : a1.size ≤ maxLen) (w2 : (Lit.int .u8 a2).wf = true) (w3 : a3.size ≤ maxLen) (w4 : (Lit.int .u8 a4).wf = true) (w5 : a5.size ≤ maxLen) (w : World) :
    Calls Try.prog 6 #[.int .u8 a0, .string a1, .int .u8 a2, .string a3, .int .u8 a4, .string a5] w fun e w' => e = .returned (.bool true) ∧ Grown w w' := by
  unfold maxLen at w1 w3 w5
  have hs := safe_symm a1 a0 a3 a2
  have ht := safe_trans a1 a0 a3 a2 a5 a4
  have hf := safe_self a1 a0
  have b : ∀ x : Bool, x = true ∨ x = false := by decide
  clear w0 w2 w4
  rcases b (safeB a1 a0 a3 a2) with h1 | h1 <;> rcases b (safeB a3 a2 a5 a4) with h2 | h2 <;> rcases b (safeB a1 a0 a5 a4) with h3 | h3
  all_goals rw [h1] at hs ht
  all_goals try rw [h2] at ht
  all_goals try rw [h3] at ht
  all_goals try (exfalso; simp at ht; done)
  all_goals clear ht b
  all_goals
    have hG := Grown.refl w
    by_cases g0 : a1.size + a3.size + a5.size ≤ 1048576
    · go_enter Try.func6, Try.ntmps6
      go_wp2_with (first | (go_at_call 17; refine (safe_any _ _ _ _ _).mono ?_; rintro e w' ⟨rfl, hg⟩; replace hG := gtr hG hg; clear hg) | go_in)
      go_ret
      exact ⟨ret_bool (by simp), hG⟩
    · go_enter Try.func6, Try.ntmps6
      go_wp2
      all_goals
        go_ret
        exact ⟨rfl, hG⟩

theorem own : ownKnob Try.prog.godebug = none := by kernel_rfl
/-! ### THE ROW's STEP: WRITTEN OUT: LEAVE IT -/
set_option maxRecDepth 100000 in
theorem lifted (os : Os) (started : os.Started) (H : Type) (enc : TypeId × Value → H) :
    ReturnsInHanded {} Try.checked os 6 .any (Rows.fnIsSafeWithIsPartialEquivalenceSpec.pre6 enc Try.prog Try.f6 Rows.fnIsSafeWithIsPartialEquivalenceRow.domain false) (Rows.fnIsSafeWithIsPartialEquivalenceSpec.post enc Try.prog Try.f6 false true false false) := by
  refine returnsInHanded_of_change (C := Try.checked) own started (by kernel_rfl) Try.func6
    (ChangeSpec.witness6 (enc := enc) (C := Try.checked) false ⟨#[], #[.int .u8 0, .string ByteArray.empty, .int .u8 0, .string ByteArray.empty, .int .u8 0, .string ByteArray.empty], []⟩ 8 (by kernel_rfl) (by kernel_rfl) (by kernel_rfl) (by kernel_rfl)) ?_
  intro W base args ds gs before hval0 hW hcnd _
  have hval : ∀ (j : Nat) t v, Try.f6.params[j]? = some t → args[j]? = some v → Value.okWide Try.prog W .any base t v := hval0
  have hW' := hW
  obtain ⟨p, q, hA0, hV, rfl, hfz, hnd⟩ := hW
  have hA : DataW.TrodAll enc Try.prog W 0 (fun _ => true) true Try.f6.params.toList args.toList ds p := hA0
  rw [Try.params6] at hA hval
  obtain ⟨v0, vs0, d0, ds0, p0, q0, hargs, rfl, rfl, h0, r0⟩ := trodAll_cons hA
  obtain ⟨v1, vs1, d1, ds1, p1, q1, rfl, rfl, rfl, h1, r1⟩ := trodAll_cons r0
  obtain ⟨v2, vs2, d2, ds2, p2, q2, rfl, rfl, rfl, h2, r2⟩ := trodAll_cons r1
  obtain ⟨v3, vs3, d3, ds3, p3, q3, rfl, rfl, rfl, h3, r3⟩ := trodAll_cons r2
  obtain ⟨v4, vs4, d4, ds4, p4, q4, rfl, rfl, rfl, h4, r4⟩ := trodAll_cons r3
  obtain ⟨v5, vs5, d5, ds5, p5, q5, rfl, rfl, rfl, h5, r5⟩ := trodAll_cons r4
  obtain ⟨rfl, rfl, rfl⟩ := trodAll_nil r5
  obtain rfl : args = #[v0, v1, v2, v3, v4, v5] := by cases args; simp_all
  obtain ⟨rfl, rfl⟩ := trodVars_none hV
  obtain ⟨a0, rfl, rfl, rfl, w0⟩ := open_int Try.underlying5 (hval 0 5 v0 rfl rfl) h0
  obtain ⟨a1, rfl, rfl, rfl, w1⟩ := open_string Try.underlying9 (hval 1 9 v1 rfl rfl) h1
  obtain ⟨a2, rfl, rfl, rfl, w2⟩ := open_int Try.underlying5 (hval 2 5 v2 rfl rfl) h2
  obtain ⟨a3, rfl, rfl, rfl, w3⟩ := open_string Try.underlying9 (hval 3 9 v3 rfl rfl) h3
  obtain ⟨a4, rfl, rfl, rfl, w4⟩ := open_int Try.underlying5 (hval 4 5 v4 rfl rfl) h4
  obtain ⟨a5, rfl, rfl, rfl, w5⟩ := open_string Try.underlying9 (hval 5 9 v5 rfl rfl) h5
  clear hA0 hval0
  simp only [List.append_nil] at hW'
  refine (walk a0 a1 a2 a3 a4 a5 w0 w1 w2 w3 w4 w5 W).mono fun e W' ⟨he, hg⟩ => ?_
  subst he
  exact ⟨_, rfl, post_of_same (pa := []) (pv := []) hW' (fun _ _ _ => (trodAll_cons_mk (shut_bool Try.underlying4 _) trodAll_mk0)) (fun sp _ => (trodAll_cons_mk (shut_int Try.underlying5 w0) (trodAll_cons_mk (shut_string Try.underlying9 w1) (trodAll_cons_mk (shut_int Try.underlying5 w2) (trodAll_cons_mk (shut_string Try.underlying9 w3) (trodAll_cons_mk (shut_int Try.underlying5 w4) (trodAll_cons_mk (shut_string Try.underlying9 w5) trodAll_mk0))))))) (fun _ _ => rfl) rfl
    (hg.frame _) hg.2.1 (ok_one (by kernel_rfl) rfl (okWide_bool_mk Try.underlying4 _))⟩

theorem over : Rows.fnIsSafeWithIsPartialEquivalenceRow.holds Try.pinned (OpenSpec.ofChange Rows.fnIsSafeWithIsPartialEquivalenceSpec) :=
  OpenClaim.holds_of_wide 6 Try.f6 rfl rfl rfl rfl rfl rfl rfl ⟨rfl, rfl, rfl, rfl, rfl⟩ rfl rfl rfl rfl rfl (by kernel_rfl) Try.func6 (by kernel_rfl)
    (of_decide_eq_true (by kernel_rfl)) (by unfold Func.isWrapper; first | (rw [if_pos (by decide +kernel)]; kernel_rfl) | (rw [if_neg (by decide +kernel)]; exact ⟨rfl, rfl⟩))
    (fun os started H enc _ => lifted os started H enc)

/-- ████ THE STATEMENT ████ -/
theorem proved : Rows.FnIsSafeWithIsPartialEquivalenceSaid :=
  over
#print axioms proved
end Go.Proofs.Ytfhoagiedpndgaa.fnIsSafeWithIsPartialEquivalence

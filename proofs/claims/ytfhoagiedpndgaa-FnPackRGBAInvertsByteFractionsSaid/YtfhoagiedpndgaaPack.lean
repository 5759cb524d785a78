/- Proved: for any bytes r, g, b, a the law FnPackRGBAInvertsByteFractions returns true, and its arguments read afterwards as before. No condition. -/
import Derived.Test.YtfhoagiedpndgaaRows
import Derived.WalkKit
import Derived.ProofKit
import Derived.OpenShut
import Derived.ShutString
import Derived.WalkLawsBesides
import Derived.Laws.BitsAllLaws
import Derived.Laws.FloatArith
import Derived.Lib.Hide
namespace Go.Proofs.Ytfhoagiedpndgaa.fnPackRGBAInvertsByteFractions
open Go.ChangeShapes Go.WideShapes Go.ChangeAt Go.RowKit
open Go.ChangeMaps (open_string shut_string)
set_option linter.unusedVariables false
theorem ret_bool {a b : Bool} (h : a = b) : Ending.returned (.bool a) = .returned (.bool b) := by rw [h]
theorem ret_fl {k : FloatKind} {a b : Nat} (h : a = b) : Ending.returned (.float k a) = .returned (.float k b) := by rw [h]
theorem gtr {a b c : World} (h : Grown a b) (k : Grown b c) : Grown a c := ⟨World.keptBut_trans h.1 k.1, fun x => (k.2.1 x).trans (h.2.1 x), Nat.le_trans h.2.2 k.2.2⟩
theorem f64bits (p : Nat) (w : World) : (callFunc 37 #[.float .f64 p]).run Try.prog w = .ok (.value (.int .u64 p)) w := by kernel_rfl
theorem f64from (p : Int) (w : World) : (callFunc 38 #[.int .u64 p]).run Try.prog w = .ok (.value (.float .f64 p.toNat)) w := by kernel_rfl
def expo (p : Nat) : Int := bits .and .u64 ((p : Int) / 4503599627370496) 2047
def roundB (p : Nat) : Nat :=
  if expo p < 1023 then
    if expo p == 1022 then (bits .or .u64 (bits .and .u64 (p : Int) 9223372036854775808) 4607182418800017408).toNat
    else (bits .and .u64 (p : Int) 9223372036854775808).toNat
  else if expo p < 1075 then
    (bits .andNot .u64 (IntKind.u64.wrap ((p : Int) + 2251799813685248 / 2 ^ (expo p - 1023).toNat)) (4503599627370495 / 2 ^ (expo p - 1023).toNat)).toNat
  else p
set_option maxRecDepth 100000 in
theorem round_any (p : Nat) (w : World) :
    Calls Try.prog 36 #[.float .f64 p] w fun e w' => e = .returned (.float .f64 (roundB p)) ∧ w = w' := by
  have h1 := f64bits
  have h2 := f64from
  go_enter Try.func36, Try.ntmps36
  go_wp2
  · go_ret
    refine ⟨ret_fl ?_, rfl⟩
    unfold roundB expo
    rw [if_pos ‹_›, if_pos ‹_›]
  · go_ret
    refine ⟨ret_fl ?_, rfl⟩
    unfold roundB expo
    rw [if_pos ‹_›, if_neg (by simp_all)]
  · go_ret
    refine ⟨ret_fl ?_, rfl⟩
    unfold roundB expo
    rw [if_neg (by omega), if_pos ‹_›]
  · go_ret
    refine ⟨ret_fl ?_, rfl⟩
    unfold roundB expo
    rw [if_neg (by omega), if_neg (by omega)]
def byteChk (r : Nat) : Bool :=
  match floatBits .quo .f64 (floatOfInt .f64 r) 4643176031446892544 with
  | some f => match floatBits .mul .f64 f 4643176031446892544 with
    | some p => floatToIntVal .f64 (roundB p) .i64 == some (r : Int)
    | none => false
  | none => false
theorem byte_all : ∀ r : Nat, r < 256 → byteChk r = true := by decide +kernel
set_option maxRecDepth 100000 in
theorem f2b (f p : Nat) (r : Int) (w : World) (h0 : 0 ≤ r) (h1 : r ≤ 255) (hm : floatBits .mul .f64 f 4643176031446892544 = some p) (hr : floatToIntVal .f64 (roundB p) .i64 = some r) :
    Calls Try.prog 34 #[.float .f64 f] w fun e w' => e = .returned (.int .u32 r) ∧ w = w' := by
  have k1 := fun w => run_float_arith (P := Try.prog) w .mul 24 .f64 f 4643176031446892544 p hm
  have k2 := fun w => run_convert_float_int (P := Try.prog) w 24 3 .f64 .i64 (roundB p) r (by kernel_rfl) Try.underlying3 hr
  have HM := Lib.hid hm
  have HR := Lib.hid hr
  clear hm hr
  go_enter Try.func34, Try.ntmps34
  go_wp2_with (go_at_call 36; refine (round_any _ _).mono ?_; rintro e w' ⟨rfl, rfl⟩)
  go_ret
  exact ⟨rfl, rfl⟩
theorem byte_ex (r : Int) (h0 : 0 ≤ r) (h1 : r ≤ 255) : ∃ f p : Nat, floatBits .quo .f64 (floatOfInt .f64 r) 4643176031446892544 = some f ∧ floatBits .mul .f64 f 4643176031446892544 = some p ∧ floatToIntVal .f64 (roundB p) .i64 = some r := by
  obtain ⟨n, rfl⟩ := Int.eq_ofNat_of_zero_le h0
  have := byte_all n (by omega)
  unfold byteChk at this
  split at this
  · rename_i f hf
    split at this
    · rename_i p hp
      exact ⟨f, p, hf, hp, by simpa using this⟩
    · cases this
  · cases this
theorem st_fl (a : Addr) (k : FloatKind) (n : Nat) (m) (w : World) : (store a (.float k n) m).run Try.prog w = stored Try.prog w a (.float k n) m := run_store Try.prog w a _ m rfl
theorem new_any (f : Nat) (w : World) :
    Calls Try.prog 25 #[.float .f64 f] w fun e w' => e = .returned (.agg #[.float .f64 f]) ∧ w.alloc (.cells #[.float .f64 f] 43) = w' := by
  have st := st_fl
  go_enter Try.func25, Try.ntmps25
  go_wp2
  exact bodyPost_ret (v := .agg #[.float .f64 f]) (by simp [results, Try.results25, go_sem]) rfl ⟨rfl, rfl⟩
theorem val_any (f : Nat) (w : World) :
    Calls Try.prog 35 #[.agg #[.float .f64 f]] w fun e w' => e = .returned (.float .f64 f) ∧ w.alloc (.cells #[.float .f64 f] 43) = w' := by
  go_enter Try.func35, Try.ntmps35
  go_wp2
  go_ret
  exact ⟨rfl, rfl⟩
def packed (r0 r1 r2 a : Int) : Int := bits .or .u32 (bits .or .u32 (bits .or .u32 (r0 * 16777216) (r1 * 65536)) (r2 * 256)) a
set_option maxRecDepth 100000 in
theorem pack_any (f0 p0 : Nat) (r0 : Int) (f1 p1 : Nat) (r1 : Int) (f2 p2 : Nat) (r2 : Int) (a : Int) (w : World)
    (h00 : 0 ≤ r0) (h01 : r0 ≤ 255) (hm0 : floatBits .mul .f64 f0 4643176031446892544 = some p0) (hr0 : floatToIntVal .f64 (roundB p0) .i64 = some r0)
    (h10 : 0 ≤ r1) (h11 : r1 ≤ 255) (hm1 : floatBits .mul .f64 f1 4643176031446892544 = some p1) (hr1 : floatToIntVal .f64 (roundB p1) .i64 = some r1)
    (h20 : 0 ≤ r2) (h21 : r2 ≤ 255) (hm2 : floatBits .mul .f64 f2 4643176031446892544 = some p2) (hr2 : floatToIntVal .f64 (roundB p2) .i64 = some r2) :
    Calls Try.prog 24 #[.agg #[.float .f64 f0], .agg #[.float .f64 f1], .agg #[.float .f64 f2], .int .u32 a] w fun e w' => e = .returned (.int .u32 (packed r0 r1 r2 a)) ∧ Grown w w' := by
  have H0 := Lib.hid hm0
  have R0 := Lib.hid hr0
  have H1 := Lib.hid hm1
  have R1 := Lib.hid hr1
  have H2 := Lib.hid hm2
  have R2 := Lib.hid hr2
  clear hm0 hr0 hm1 hr1 hm2 hr2
  go_enter Try.func24, Try.ntmps24
  go_wp2_with (first | (go_at_call 35; refine (val_any _ _).mono ?_; rintro e w' ⟨rfl, rfl⟩) | (go_at_call 34; refine (f2b _ _ _ _ h00 h01 H0.out R0.out).mono ?_; rintro e w' ⟨rfl, rfl⟩; clear H0) | (go_at_call 34; refine (f2b _ _ _ _ h10 h11 H1.out R1.out).mono ?_; rintro e w' ⟨rfl, rfl⟩; clear H1) | (go_at_call 34; refine (f2b _ _ _ _ h20 h21 H2.out R2.out).mono ?_; rintro e w' ⟨rfl, rfl⟩; clear H2))
  go_ret
  exact ⟨rfl, by repeat (first | exact Grown.refl _ | apply Grown.drew | apply Grown.alloc)⟩
set_option maxRecDepth 100000 in
theorem walk (a0 : Int) (a1 : Int) (a2 : Int) (a3 : Int) (w0 : (Lit.int .u8 a0).wf = true) (w1 : (Lit.int .u8 a1).wf = true) (w2 : (Lit.int .u8 a2).wf = true) (w3 : (Lit.int .u8 a3).wf = true) (w : World) :
    Calls Try.prog 3 #[.int .u8 a0, .int .u8 a1, .int .u8 a2, .int .u8 a3] w fun e w' => e = .returned (.bool true) ∧ Grown w w' := by
  obtain ⟨b0, c0⟩ := bounds_u8 w0
  obtain ⟨b1, c1⟩ := bounds_u8 w1
  obtain ⟨b2, c2⟩ := bounds_u8 w2
  obtain ⟨b3, c3⟩ := bounds_u8 w3
  obtain ⟨f0, p0, q0, m0, r0⟩ := byte_ex a0 b0 c0
  obtain ⟨f1, p1, q1, m1, r1⟩ := byte_ex a1 b1 c1
  obtain ⟨f2, p2, q2, m2, r2⟩ := byte_ex a2 b2 c2
  have k0 := fun w => run_float_arith (P := Try.prog) w .quo 24 .f64 _ 4643176031446892544 f0 q0
  have k1 := fun w => run_float_arith (P := Try.prog) w .quo 24 .f64 _ 4643176031446892544 f1 q1
  have k2 := fun w => run_float_arith (P := Try.prog) w .quo 24 .f64 _ 4643176031446892544 f2 q2
  have M0 := Lib.hid m0
  have R0 := Lib.hid r0
  have M1 := Lib.hid m1
  have R1 := Lib.hid r1
  have M2 := Lib.hid m2
  have R2 := Lib.hid r2
  clear m0 r0 m1 r1 m2 r2 q0 q1 q2 w0 w1 w2 w3
  go_enter Try.func3, Try.ntmps3
  go_wp2_with (first | (go_at_call 25; refine (new_any _ _).mono ?_; rintro e w' ⟨rfl, rfl⟩) | (go_at_call 24; refine (pack_any f0 p0 a0 f1 p1 a1 f2 p2 a2 a3 _ b0 c0 M0.out R0.out b1 c1 M1.out R1.out b2 c2 M2.out R2.out).mono ?_; rintro e w' ⟨rfl, hg⟩) | go_in)
  go_ret
  exact ⟨ret_bool (by unfold packed; exact beq_self_eq_true _), gtr (((Grown.refl _).alloc _ _).alloc _ _ |>.alloc _ _) hg⟩

theorem own : ownKnob Try.prog.godebug = none := by kernel_rfl
/-! ### THE ROW's STEP: WRITTEN OUT: LEAVE IT -/
set_option maxRecDepth 100000 in
theorem lifted (os : Os) (started : os.Started) (H : Type) (enc : TypeId × Value → H) :
    ReturnsInHanded {} Try.checked os 3 .any (Rows.fnPackRGBAInvertsByteFractionsSpec.pre6 enc Try.prog Try.f3 Rows.fnPackRGBAInvertsByteFractionsRow.domain false) (Rows.fnPackRGBAInvertsByteFractionsSpec.post enc Try.prog Try.f3 false true false false) := by
  refine returnsInHanded_of_change (C := Try.checked) own started (by kernel_rfl) Try.func3
    (ChangeSpec.witness6 (enc := enc) (C := Try.checked) false ⟨#[], #[.int .u8 0, .int .u8 0, .int .u8 0, .int .u8 0], []⟩ 8 (by kernel_rfl) (by kernel_rfl) (by kernel_rfl) (by kernel_rfl)) ?_
  intro W base args ds gs before hval0 hW hcnd _
  have hval : ∀ (j : Nat) t v, Try.f3.params[j]? = some t → args[j]? = some v → Value.okWide Try.prog W .any base t v := hval0
  have hW' := hW
  obtain ⟨p, q, hA0, hV, rfl, hfz, hnd⟩ := hW
  have hA : DataW.TrodAll enc Try.prog W 0 (fun _ => true) true Try.f3.params.toList args.toList ds p := hA0
  rw [Try.params3] at hA hval
  obtain ⟨v0, vs0, d0, ds0, p0, q0, hargs, rfl, rfl, h0, r0⟩ := trodAll_cons hA
  obtain ⟨v1, vs1, d1, ds1, p1, q1, rfl, rfl, rfl, h1, r1⟩ := trodAll_cons r0
  obtain ⟨v2, vs2, d2, ds2, p2, q2, rfl, rfl, rfl, h2, r2⟩ := trodAll_cons r1
  obtain ⟨v3, vs3, d3, ds3, p3, q3, rfl, rfl, rfl, h3, r3⟩ := trodAll_cons r2
  obtain ⟨rfl, rfl, rfl⟩ := trodAll_nil r3
  obtain rfl : args = #[v0, v1, v2, v3] := by cases args; simp_all
  obtain ⟨rfl, rfl⟩ := trodVars_none hV
  obtain ⟨a0, rfl, rfl, rfl, w0⟩ := open_int Try.underlying5 (hval 0 5 v0 rfl rfl) h0
  obtain ⟨a1, rfl, rfl, rfl, w1⟩ := open_int Try.underlying5 (hval 1 5 v1 rfl rfl) h1
  obtain ⟨a2, rfl, rfl, rfl, w2⟩ := open_int Try.underlying5 (hval 2 5 v2 rfl rfl) h2
  obtain ⟨a3, rfl, rfl, rfl, w3⟩ := open_int Try.underlying5 (hval 3 5 v3 rfl rfl) h3
  clear hA0 hval0
  simp only [List.append_nil] at hW'
  refine (walk a0 a1 a2 a3 w0 w1 w2 w3 W).mono fun e W' ⟨he, hg⟩ => ?_
  subst he
  exact ⟨_, rfl, post_of_same (pa := []) (pv := []) hW' (fun _ _ _ => (trodAll_cons_mk (shut_bool Try.underlying4 _) trodAll_mk0)) (fun sp _ => (trodAll_cons_mk (shut_int Try.underlying5 w0) (trodAll_cons_mk (shut_int Try.underlying5 w1) (trodAll_cons_mk (shut_int Try.underlying5 w2) (trodAll_cons_mk (shut_int Try.underlying5 w3) trodAll_mk0))))) (fun _ _ => rfl) rfl
    (hg.frame _) hg.2.1 (ok_one (by kernel_rfl) rfl (okWide_bool_mk Try.underlying4 _))⟩

theorem over : Rows.fnPackRGBAInvertsByteFractionsRow.holds Try.pinned (OpenSpec.ofChange Rows.fnPackRGBAInvertsByteFractionsSpec) :=
  OpenClaim.holds_of_wide 3 Try.f3 rfl rfl rfl rfl rfl rfl rfl ⟨rfl, rfl, rfl, rfl, rfl⟩ rfl rfl rfl rfl rfl (by kernel_rfl) Try.func3 (by kernel_rfl)
    (of_decide_eq_true (by kernel_rfl)) (by unfold Func.isWrapper; first | (rw [if_pos (by decide +kernel)]; kernel_rfl) | (rw [if_neg (by decide +kernel)]; exact ⟨rfl, rfl⟩))
    (fun os started H enc _ => lifted os started H enc)

/-- ████ THE STATEMENT ████ -/
theorem proved : Rows.FnPackRGBAInvertsByteFractionsSaid :=
  over
#print axioms proved
end Go.Proofs.Ytfhoagiedpndgaa.fnPackRGBAInvertsByteFractions

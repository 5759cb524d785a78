/- The walks of math's arctangents. -/
import Derived.Test.YtkbgkogfjfojgaaDoorSat
import Derived.Test.YtkbgkogfjfojgaaDoorRel
import Derived.Test.YtkbgkogfjfojgaaDoorF64
import Derived.Lib.Hide
import Derived.Outline
import Derived.Laws.Bits64b
import Derived.Deep.DeepCutAuto
set_option linter.unusedSimpArgs false
set_option linter.unusedVariables false
namespace Go.Proofs.YtkbgkogfjfojgaaDoor
open Go.RowKit
open Flt Ieee
theorem neg_fl (x : Nat) (w : World) : (Op.unary .neg (.float .f64 x)).run Tryd.prog w = .ok (.float .f64 (negB x)) w := rfl
set_option maxRecDepth 100000 in
set_option maxHeartbeats 2000000 in
theorem xatan35_c (x r : Nat) (w : World) (h : XatP x r) : Calls Tryd.prog 52 #[.float .f64 x] w fun e w' => e = .returned (.float .f64 r) ∧ w = w' := by
  obtain ⟨z, n0, a1, n1, a2, n2, a3, n3, a4, nn, b0, m1, b1, m2, b2, m3, b3, m4, b4, t, u, h1, h2, h3, h4, h5, h6, h7, h8, h9, h10, h11, h12, h13, h14, h15, h16, h17, h18, h19, h20, h21, h22⟩ := h
  have k1 := fun w => run_float_arith (P := Tryd.prog) w .mul 22 .f64 x x z h1
  have k2 := fun w => run_float_arith (P := Tryd.prog) w .mul 22 .f64 13829429103926125972 z n0 h2
  have k3 := fun w => run_float_arith (P := Tryd.prog) w .add 22 .f64 n0 13848613196940411002 a1 h3
  have k4 := fun w => run_float_arith (P := Tryd.prog) w .mul 22 .f64 a1 z n1 h4
  have k5 := fun w => run_float_arith (P := Tryd.prog) w .add 22 .f64 n1 13858350711815275123 a2 h5
  have k6 := fun w => run_float_arith (P := Tryd.prog) w .mul 22 .f64 a2 z n2 h6
  have k7 := fun w => run_float_arith (P := Tryd.prog) w .add 22 .f64 n2 13861719834326579749 a3 h7
  have k8 := fun w => run_float_arith (P := Tryd.prog) w .mul 22 .f64 a3 z n3 h8
  have k9 := fun w => run_float_arith (P := Tryd.prog) w .add 22 .f64 n3 13857635882265799822 a4 h9
  have k10 := fun w => run_float_arith (P := Tryd.prog) w .mul 22 .f64 z a4 nn h10
  have k11 := fun w => run_float_arith (P := Tryd.prog) w .add 22 .f64 z 4627690253511319612 b0 h11
  have k12 := fun w => run_float_arith (P := Tryd.prog) w .mul 22 .f64 b0 z m1 h12
  have k13 := fun w => run_float_arith (P := Tryd.prog) w .add 22 .f64 m1 4640010388282866213 b1 h13
  have k14 := fun w => run_float_arith (P := Tryd.prog) w .mul 22 .f64 b1 z m2 h14
  have k15 := fun w => run_float_arith (P := Tryd.prog) w .add 22 .f64 m2 4646322940342877755 b2 h15
  have k16 := fun w => run_float_arith (P := Tryd.prog) w .mul 22 .f64 b2 z m3 h16
  have k17 := fun w => run_float_arith (P := Tryd.prog) w .add 22 .f64 m3 4647246694406179306 b3 h17
  have k18 := fun w => run_float_arith (P := Tryd.prog) w .mul 22 .f64 b3 z m4 h18
  have k19 := fun w => run_float_arith (P := Tryd.prog) w .add 22 .f64 m4 4641049159275471596 b4 h19
  have k20 := fun w => run_float_arith (P := Tryd.prog) w .quo 22 .f64 nn b4 t h20
  have k21 := fun w => run_float_arith (P := Tryd.prog) w .mul 22 .f64 x t u h21
  have k22 := fun w => run_float_arith (P := Tryd.prog) w .add 22 .f64 u x r h22
  clear h1 h2 h3 h4 h5 h6 h7 h8 h9 h10 h11 h12 h13 h14 h15 h16 h17 h18 h19 h20 h21 h22
  go_enter Tryd.func52, Tryd.ntmps52
  go_wp2
  go_ret
  exact ⟨rfl, rfl⟩
set_option maxRecDepth 100000 in
set_option maxHeartbeats 2000000 in
theorem satan34_c (x t : Nat) (w : World) (h : SatP x t) : Calls Tryd.prog 50 #[.float .f64 x] w fun e w' => e = .returned (.float .f64 t) ∧ w = w' := by
  cases h with
  | low h h1 =>
    have C := Lib.hid (fun w => xatan35_c x t w h1)
    have e1 : (FloatKind.f64.format.order x 4604119971053405471 == some .lt || FloatKind.f64.format.order x 4604119971053405471 == some .eq) = true := h
    clear h h1
    go_enter Tryd.func50, Tryd.ntmps50
    go_wp2_with (go_at_call 52; (with_reducible refine (C.out _).mono ?_); rintro e w' ⟨rfl, rfl⟩)
    go_ret
    exact ⟨rfl, rfl⟩
  | high i r s h h0 h1 h2 h3 h4 =>
    have C := Lib.hid (fun w => xatan35_c i r w h2)
    have e1 : (FloatKind.f64.format.order x 4604119971053405471 == some .lt || FloatKind.f64.format.order x 4604119971053405471 == some .eq) = false := h
    have e2 : (FloatKind.f64.format.order x 4612618744449965542 == some .gt) = true := h0
    have k1 := fun w => run_float_arith (P := Tryd.prog) w .quo 22 .f64 4607182418800017408 x i h1
    have k3 := fun w => run_float_arith (P := Tryd.prog) w .sub 22 .f64 4609753056924675352 r s h3
    have k4 := fun w => run_float_arith (P := Tryd.prog) w .add 22 .f64 s 4364452196894661639 t h4
    clear h h0 h1 h2 h3 h4
    go_enter Tryd.func50, Tryd.ntmps50
    go_wp2_with (go_at_call 52; (with_reducible refine (C.out _).mono ?_); rintro e w' ⟨rfl, rfl⟩)
    go_ret
    exact ⟨rfl, rfl⟩
  | mid a b c r s h h0 h1 h2 h3 h4 h5 h6 =>
    have C := Lib.hid (fun w => xatan35_c c r w h4)
    have e1 : (FloatKind.f64.format.order x 4604119971053405471 == some .lt || FloatKind.f64.format.order x 4604119971053405471 == some .eq) = false := h
    have e2 : (FloatKind.f64.format.order x 4612618744449965542 == some .gt) = false := h0
    have k1 := fun w => run_float_arith (P := Tryd.prog) w .sub 22 .f64 x 4607182418800017408 a h1
    have k2 := fun w => run_float_arith (P := Tryd.prog) w .add 22 .f64 x 4607182418800017408 b h2
    have k3 := fun w => run_float_arith (P := Tryd.prog) w .quo 22 .f64 a b c h3
    have k5 := fun w => run_float_arith (P := Tryd.prog) w .add 22 .f64 4605249457297304856 r s h5
    have k6 := fun w => run_float_arith (P := Tryd.prog) w .add 22 .f64 s 4359948597267291143 t h6
    clear h h0 h1 h2 h3 h4 h5 h6
    go_enter Tryd.func50, Tryd.ntmps50
    go_wp2_with (go_at_call 52; (with_reducible refine (C.out _).mono ?_); rintro e w' ⟨rfl, rfl⟩)
    go_ret
    exact ⟨rfl, rfl⟩
/-- atan of a word of sign s and rung r, where t is satan of its magnitude -/
def at0 (s : Bool) (r t : Nat) : Nat := if r = 0 then F.word s 0 else if s then negB t else t
theorem word_ord0 (s : Bool) (r : Nat) (h0 : r ≠ 0) (h : r ≤ top) : eqB (F.word s r) 0 = false ∧ gtB (F.word s r) 0 = !s := by
  by_cases c : r = top
  · subst c; cases s <;> decide +kernel
  · have f := word_fin s r (by omega)
    have fp := word_fin false r (by omega)
    have hp := word_pos r (by omega) (by omega)
    have hs : val (F.word s r) = if s then - val (F.word false r) else val (F.word false r) := by
      cases s
      · rfl
      · have := neg_word false r h
        rw [show F.word true r = negB (F.word false r) from this.symm]
        exact (negB_val (word_lt false r h) fp).2
    constructor
    · cases e : eqB (F.word s r) 0
      · rfl
      · have := (eqB_iff f zero_fin.1).1 e
        rw [zero_fin.2, hs] at this
        cases s <;> simp at this <;> grind
    · cases s
      · exact (gtB_iff f zero_fin.1).2 (by rw [zero_fin.2]; exact hp)
      · cases e : gtB (F.word true r) 0
        · rfl
        · have := (gtB_iff f zero_fin.1).1 e
          rw [zero_fin.2, hs] at this
          simp at this; grind
set_option maxRecDepth 100000 in
set_option maxHeartbeats 2000000 in
theorem atan33_c (s : Bool) (r t : Nat) (w : World) (h : r ≤ top) (ht : r ≠ 0 → SatP (F.word false r) t) : Calls Tryd.prog 46 #[.float .f64 (F.word s r)] w fun e w' => e = .returned (.float .f64 (at0 s r t)) ∧ w = w' := by
  have kn := neg_fl
  by_cases h0 : r = 0
  · subst h0
    have e1 : (FloatKind.f64.format.order (F.word s 0) 0 == some .eq) = true := by cases s <;> decide +kernel
    have E : Hid (at0 s 0 t = F.word s 0) := Lib.hid (if_pos rfl)
    clear ht h
    generalize F.word s 0 = x at *
    go_enter Tryd.func46, Tryd.ntmps46
    go_wp2
    go_ret
    exact ⟨by rw [E.out]; rfl, rfl⟩
  · obtain ⟨o1, o2⟩ := word_ord0 s r h0 h
    have e1 : (FloatKind.f64.format.order (F.word s r) 0 == some .eq) = false := o1
    have e2 : (FloatKind.f64.format.order (F.word s r) 0 == some .gt) = !s := o2
    have S := ht h0
    have C := Lib.hid (fun w => satan34_c _ t w S)
    cases s
    · have E : Hid (at0 false r t = t) := Lib.hid (by unfold at0; rw [if_neg h0]; rfl)
      simp only [Bool.not_false] at e2
      clear ht o1 o2 S
      generalize F.word false r = x at *
      go_enter Tryd.func46, Tryd.ntmps46
      go_wp2_with (go_at_call 50; (with_reducible refine (C.out _).mono ?_); rintro e w' ⟨rfl, rfl⟩)
      go_ret
      exact ⟨by rw [E.out]; rfl, rfl⟩
    · have E : Hid (at0 true r t = negB t) := Lib.hid (by unfold at0; rw [if_neg h0]; rfl)
      have en := neg_word true r h
      simp only [Bool.not_true] at e2 en
      clear ht o1 o2 S
      generalize F.word true r = x at *
      generalize F.word false r = y at *
      go_enter Tryd.func46, Tryd.ntmps46
      go_wp2_with (go_at_call 50; (with_reducible refine (C.out _).mono ?_); rintro e w' ⟨rfl, rfl⟩)
      go_ret
      exact ⟨by rw [E.out]; rfl, rfl⟩
set_option maxRecDepth 100000 in
set_option maxHeartbeats 2000000 in
theorem atan28_c (s : Bool) (r t : Nat) (w : World) (h : r ≤ top) (ht : r ≠ 0 → SatP (F.word false r) t) : Calls Tryd.prog 40 #[.float .f64 (F.word s r)] w fun e w' => e = .returned (.float .f64 (at0 s r t)) ∧ w = w' := by
  have C := Lib.hid (fun w => atan33_c s r t w h ht)
  clear h ht
  generalize F.word s r = x at *
  generalize at0 s r t = y at *
  go_enter Tryd.func40, Tryd.ntmps40
  go_wp2_with (go_at_call 46; (with_reducible refine (C.out _).mono ?_); rintro e w' ⟨rfl, rfl⟩)
  go_ret
  exact ⟨rfl, rfl⟩
theorem run30 (x : Nat) (w : World) : (callFunc 44 #[.float .f64 x]).run Tryd.prog w = .ok (.value (.int .u64 x)) w := by
  rw [run_callFunc_extern (e := Extern.MathFloatBits.float64bits) Tryd.func44 (by kernel_rfl) (by kernel_rfl) (by kernel_rfl) (by kernel_rfl)]
  rfl
theorem run29 (x : Int) (w : World) : (callFunc 43 #[.int .u64 x]).run Tryd.prog w = .ok (.value (.float .f64 x.toNat)) w := by
  rw [run_callFunc_extern (e := Extern.MathFloatBits.float64frombits) Tryd.func43 (by kernel_rfl) (by kernel_rfl) (by kernel_rfl) (by kernel_rfl)]
  rfl
theorem and_sign (s : Bool) (r : Nat) (h : r ≤ top) : bits .and .u64 ((F.word s r : Nat) : Int) 9223372036854775808 = if s then 9223372036854775808 else 0 := by
  have hr : r < 2 ^ 63 := by unfold top at h; omega
  have := bits_and_u64_nat (F.word s r) 9223372036854775808 (word_lt s r h) (by decide)
  rw [show ((9223372036854775808 : Nat) : Int) = 9223372036854775808 from rfl] at this
  rw [this]
  have e : ∀ x : Nat, x &&& 2 ^ 63 = if x.testBit 63 then 2 ^ 63 else 0 := fun x => by
    apply Nat.eq_of_testBit_eq
    intro i
    rw [Nat.testBit_and, Nat.testBit_two_pow]
    by_cases c : 63 = i
    · subst c
      cases hx : x.testBit 63
      · simp
      · rw [if_pos rfl, Nat.testBit_two_pow]; simp
    · cases hx : x.testBit 63
      · simp [c]
      · rw [if_pos rfl, Nat.testBit_two_pow]; simp [c]
  rw [show (9223372036854775808 : Nat) = 2 ^ 63 from rfl, e]
  cases s
  · have : (F.word false r).testBit 63 = false := Nat.testBit_lt_two_pow (show r < 2 ^ 63 from hr)
    rw [this]; rfl
  · have : (F.word true r).testBit 63 = true := by
      show (2 ^ 63 + r).testBit 63 = true
      rw [Nat.testBit_two_pow_add_eq, Nat.testBit_lt_two_pow hr]; rfl
    rw [this]; rfl
theorem or_sign (s : Bool) (c : Nat) (h : c ≤ top) : bits .or .u64 (c : Int) (if s then 9223372036854775808 else 0) = ((F.word s c : Nat) : Int) := by
  have hr : c < 2 ^ 63 := by unfold top at h; omega
  cases s
  · have := bits_or_u64_nat c 0 (by omega) (by decide)
    simp at this ⊢
    rw [this]; rfl
  · have := bits_or_u64_nat c 9223372036854775808 (by omega) (by decide)
    rw [show ((9223372036854775808 : Nat) : Int) = 9223372036854775808 from rfl] at this
    rw [if_pos rfl, this]
    congr 1
    show c ||| 2 ^ 63 = 2 ^ 63 + c
    rw [Nat.or_comm]
    have := Nat.two_pow_add_eq_or_of_lt hr 1
    rw [Nat.mul_one] at this
    exact this.symm
set_option maxRecDepth 100000 in
set_option maxHeartbeats 2000000 in
theorem copy_0 (s : Bool) (r : Nat) (w : World) (h : r ≤ top) : Calls Tryd.prog 38 #[.float .f64 0, .float .f64 (F.word s r)] w fun e w' => e = .returned (.float .f64 (F.word s 0)) ∧ w = w' := by
  have k30 := run30; have k29 := run29
  have a1 := and_sign s r h
  have a2 : bits .or .u64 0 (if s then 9223372036854775808 else 0) = ((F.word s 0 : Nat) : Int) := or_sign s 0 (by decide)
  have a3 : bits .andNot .u64 0 9223372036854775808 = 0 := by decide +kernel
  have a4 : (((F.word s 0 : Nat) : Int)).toNat = F.word s 0 := by simp
  clear h
  generalize F.word s r = x at *
  generalize F.word s 0 = y at *
  go_enter Tryd.func38, Tryd.ntmps38
  go_wp2
  all_goals (go_ret; exact ⟨rfl, rfl⟩)
set_option maxRecDepth 100000 in
set_option maxHeartbeats 2000000 in
theorem copy_pi (s : Bool) (r : Nat) (w : World) (h : r ≤ top) : Calls Tryd.prog 38 #[.float .f64 4614256656552045848, .float .f64 (F.word s r)] w fun e w' => e = .returned (.float .f64 (F.word s 4614256656552045848)) ∧ w = w' := by
  have k30 := run30; have k29 := run29
  have a1 := and_sign s r h
  have a2 : bits .or .u64 4614256656552045848 (if s then 9223372036854775808 else 0) = ((F.word s 4614256656552045848 : Nat) : Int) := or_sign s 4614256656552045848 (by decide)
  have a3 : bits .andNot .u64 4614256656552045848 9223372036854775808 = 4614256656552045848 := by decide +kernel
  have a4 : (((F.word s 4614256656552045848 : Nat) : Int)).toNat = F.word s 4614256656552045848 := by simp
  clear h
  generalize F.word s r = x at *
  generalize F.word s 4614256656552045848 = y at *
  go_enter Tryd.func38, Tryd.ntmps38
  go_wp2
  all_goals (go_ret; exact ⟨rfl, rfl⟩)
set_option maxRecDepth 100000 in
set_option maxHeartbeats 2000000 in
theorem copy_pi2 (s : Bool) (r : Nat) (w : World) (h : r ≤ top) : Calls Tryd.prog 38 #[.float .f64 4609753056924675352, .float .f64 (F.word s r)] w fun e w' => e = .returned (.float .f64 (F.word s 4609753056924675352)) ∧ w = w' := by
  have k30 := run30; have k29 := run29
  have a1 := and_sign s r h
  have a2 : bits .or .u64 4609753056924675352 (if s then 9223372036854775808 else 0) = ((F.word s 4609753056924675352 : Nat) : Int) := or_sign s 4609753056924675352 (by decide)
  have a3 : bits .andNot .u64 4609753056924675352 9223372036854775808 = 4609753056924675352 := by decide +kernel
  have a4 : (((F.word s 4609753056924675352 : Nat) : Int)).toNat = F.word s 4609753056924675352 := by simp
  clear h
  generalize F.word s r = x at *
  generalize F.word s 4609753056924675352 = y at *
  go_enter Tryd.func38, Tryd.ntmps38
  go_wp2
  all_goals (go_ret; exact ⟨rfl, rfl⟩)
theorem word_val (s : Bool) (r : Nat) (h : r < top) : val (F.word s r) = if s then - val (F.word false r) else val (F.word false r) := by
  cases s
  · rfl
  · have := neg_word false r (by omega)
    rw [show F.word true r = negB (F.word false r) from this.symm]
    exact (negB_val (word_lt false r (by omega)) (word_fin false r h)).2
theorem word_ord1 (s : Bool) (r : Nat) (h0 : r ≠ 0) (h : r < top) : geB (F.word s r) 0 = !s ∧ ltB (F.word s r) 0 = s := by
  have f := word_fin s r h
  have hp := word_pos r (by omega) h
  have hs := word_val s r h
  constructor
  · cases s
    · exact (geB_iff f zero_fin.1).2 (by rw [zero_fin.2]; grind)
    · cases e : geB (F.word true r) 0
      · rfl
      · have := (geB_iff f zero_fin.1).1 e
        rw [zero_fin.2, hs] at this
        simp at this; grind
  · cases s
    · cases e : ltB (F.word false r) 0
      · rfl
      · have := (ltB_iff f zero_fin.1).1 e
        rw [zero_fin.2] at this
        grind
    · exact (ltB_iff f zero_fin.1).2 (by rw [zero_fin.2, hs]; simp; grind)
theorem fin_word {x : Nat} (wx : x < 2 ^ 64) (fx : fin x) : ∃ s r, r < top ∧ x = F.word s r := by
  have key : ∀ s r, r < 2 ^ 63 → x = F.word s r → r < top := fun s r hr e => by
    by_cases c : r < top
    · exact c
    · exfalso
      subst e
      have e1 : (F.word s r / F.signWeight % 2 == 1) = s := by
        cases s
        · show (r / 2 ^ 63 % 2 == 1) = false
          rw [Nat.div_eq_of_lt hr]; rfl
        · show ((2 ^ 63 + r) / 2 ^ 63 % 2 == 1) = true
          rw [show (2 ^ 63 + r) / 2 ^ 63 = 1 by omega]; rfl
      have e2 : F.word s r % F.signWeight = r := by
        cases s
        · show r % 2 ^ 63 = r
          omega
        · show (2 ^ 63 + r) % 2 ^ 63 = r
          omega
      unfold fin at fx
      unfold Format.read at fx
      dsimp only at fx
      rw [e1, e2] at fx
      rw [if_neg (show ¬ r < F.binade by show ¬ r < 2 ^ 52; unfold top at c; omega), if_neg (show ¬ r < F.infRung from c)] at fx
      split at fx <;> exact fx
  by_cases c : x < 2 ^ 63
  · exact ⟨false, x, key false x c rfl, rfl⟩
  · exact ⟨true, x - 2 ^ 63, key true _ (by omega) (by show x = 2 ^ 63 + (x - 2 ^ 63); omega), by show x = 2 ^ 63 + (x - 2 ^ 63); omega⟩
set_option maxRecDepth 100000 in
set_option maxHeartbeats 2000000 in
theorem nan23_c (x : Nat) (w : World) (h : fin x) : Calls Tryd.prog 35 #[.float .f64 x] w fun e w' => e = .returned (.bool false) ∧ w = w' := by
  have e1 : (FloatKind.f64.format.order x x != some .eq) = false := by
    have : (FloatKind.f64.format.order x x == some .eq) = true := eqB_self h
    simp [bne, this]
  clear h
  go_enter Tryd.func35, Tryd.ntmps35
  go_wp2
  go_ret
  exact ⟨rfl, rfl⟩
set_option maxRecDepth 100000 in
set_option maxHeartbeats 2000000 in
theorem sign25_c (s : Bool) (r : Nat) (w : World) (h : r < top) : Calls Tryd.prog 37 #[.float .f64 (F.word s r)] w fun e w' => e = .returned (.bool s) ∧ w = w' := by
  have k30 := run30
  cases s
  · have h1 : F.word false r = r := rfl
    have h2 : ((r : Nat) : Int) ≤ 9223372036854775807 := by unfold top at h; omega
    have hd : decide (((r : Nat) : Int) < 0) = false := by simp
    rw [h1]
    clear h h1
    go_enter Tryd.func37, Tryd.ntmps37
    go_wp2
    go_ret
    exact ⟨rfl, rfl⟩
  · have h1 : F.word true r = 9223372036854775808 + r := rfl
    have h2 : ((r : Nat) : Int) ≤ 9223372036854775807 := by unfold top at h; omega
    have hd : decide (wrap64 (9223372036854775808 + ((r : Nat) : Int)) < 0) = true := by simp only [decide_eq_true_eq]; unfold wrap64; omega
    rw [h1]
    clear h h1
    go_enter Tryd.func37, Tryd.ntmps37
    go_wp2
    go_ret
    exact ⟨rfl, rfl⟩
theorem andn_sign (s : Bool) (r : Nat) (h : r < top) : bits .andNot .u64 ((F.word s r : Nat) : Int) 9223372036854775808 = ((r : Nat) : Int) := by
  have hr : r < 2 ^ 63 := by unfold top at h; omega
  have hx := word_lt s r (Nat.le_of_lt h)
  have h1 : (BitVec.ofInt 64 ((F.word s r : Nat) : Int)).toNat = F.word s r := by
    rw [BitVec.ofInt_natCast, BitVec.toNat_ofNat]; exact Nat.mod_eq_of_lt hx
  have h2 : (~~~ (BitVec.ofInt 64 9223372036854775808)).toNat = 2 ^ 63 - 1 := by decide +kernel
  show IntKind.u64.wrap ((BitVec.ofInt 64 ((F.word s r : Nat) : Int) &&& ~~~ (BitVec.ofInt 64 9223372036854775808)).toNat : Int) = _
  rw [BitVec.toNat_and, h1, h2, Nat.and_two_pow_sub_one_eq_mod]
  have : F.word s r % 2 ^ 63 = r := by
    cases s
    · show r % 2 ^ 63 = r
      omega
    · show (2 ^ 63 + r) % 2 ^ 63 = r
      omega
  rw [this, IntKind.wrap_u64]
  omega
set_option maxRecDepth 100000 in
set_option maxHeartbeats 2000000 in
theorem abs31_c (s : Bool) (r : Nat) (w : World) (h : r < top) : Calls Tryd.prog 41 #[.float .f64 (F.word s r)] w fun e w' => e = .returned (.float .f64 r) ∧ w = w' := by
  have k30 := run30; have k29 := run29
  have a1 := andn_sign s r h
  clear h
  generalize F.word s r = x at *
  go_enter Tryd.func41, Tryd.ntmps41
  go_wp2
  go_ret
  exact ⟨by simp, rfl⟩
theorem max_val {x : Nat} (fx : fin x) : val x ≤ val 9218868437227405311 := by
  obtain ⟨s, m, p, e, hm, -, hp, -⟩ := fin_num fx
  have hv : val 9218868437227405311 = 9007199254740991 * two 971 := by unfold two; decide +kernel
  rw [hv]
  have h1 : val x = sg s * (m : Rat) * two p := by unfold val; rw [e]; rfl
  have h2 := two_mono hp
  have h3 := two_pos p
  have h4 : (m : Rat) ≤ 9007199254740991 := by exact_mod_cast (show m ≤ 9007199254740991 by omega)
  have h5 : (0 : Rat) ≤ (m : Rat) := by exact_mod_cast Nat.zero_le m
  have h6 := Rat.mul_le_mul_of_nonneg_right h4 (Rat.le_of_lt h3)
  have h7 := Rat.mul_le_mul_of_nonneg_left h2 (show (0 : Rat) ≤ 9007199254740991 by decide)
  have h8 := Rat.mul_nonneg h5 (Rat.le_of_lt h3)
  rw [h1]
  cases s <;> simp only [sg] <;> simp <;> grind
set_option maxRecDepth 100000 in
set_option maxHeartbeats 2000000 in
theorem inf27_c (s : Bool) (r : Nat) (w : World) (h : r < top) : Calls Tryd.prog 39 #[.float .f64 (F.word s r), .int .i64 0] w fun e w' => e = .returned (.bool false) ∧ w = w' := by
  have C := Lib.hid (fun w => abs31_c s r w h)
  have e1 : (FloatKind.f64.format.order r 9218868437227405311 == some .gt) = false := by
    have f := word_fin false r h
    have fm : fin 9218868437227405311 := fin_of (by decide +kernel)
    cases e : gtB (F.word false r) 9218868437227405311
    · exact e
    · exfalso
      have := (gtB_iff f fm).1 e
      have := max_val f
      grind
  clear h
  generalize F.word s r = x at *
  go_enter Tryd.func39, Tryd.ntmps39
  go_wp2_with (go_at_call 41; (with_reducible refine (C.out _).mono ?_); rintro e w' ⟨rfl, rfl⟩)
  go_ret
  exact ⟨rfl, rfl⟩
set_option maxRecDepth 100000 in
set_option maxHeartbeats 2000000 in
theorem at2_a (sy sx : Bool) (ry rx : Nat) (w : World) (hy : ry < top) (hx : rx < top) (h : ry = 0) (hs : sx = false) : Calls Tryd.prog 29 #[.float .f64 (F.word sy ry), .float .f64 (F.word sx rx)] w fun e w' => e = .returned (.float .f64 (F.word sy 0)) ∧ w = w' := by
  have CN1 := Lib.hid (fun w => nan23_c (F.word sy ry) w (word_fin sy ry hy))
  have CN2 := Lib.hid (fun w => nan23_c (F.word sx rx) w (word_fin sx rx hx))
  have CS := Lib.hid (fun w => sign25_c sx rx w hx)
  have CI1 := Lib.hid (fun w => inf27_c sx rx w hx)
  have CI2 := Lib.hid (fun w => inf27_c sy ry w hy)
  have CC := Lib.hid (fun w => copy_0 sy ry w (by omega))
  have e1 : (FloatKind.f64.format.order (F.word sy ry) 0 == some .eq) = true := by subst h; cases sy <;> decide +kernel
  subst hs
  have e2 : (FloatKind.f64.format.order (F.word false rx) 0 == some .gt || FloatKind.f64.format.order (F.word false rx) 0 == some .eq) = true := by
    by_cases c : rx = 0
    · subst c; decide +kernel
    · exact (word_ord1 false rx c hx).1
  clear hy hx h
  generalize F.word sy ry = Y at *
  generalize F.word false rx = X at *
  go_enter Tryd.func29, Tryd.ntmps29
  go_wp2_with (first | (go_at_call 35; (with_reducible refine (CN1.out _).mono ?_); rintro e w' ⟨rfl, rfl⟩) | (go_at_call 35; (with_reducible refine (CN2.out _).mono ?_); rintro e w' ⟨rfl, rfl⟩) | (go_at_call 37; (with_reducible refine (CS.out _).mono ?_); rintro e w' ⟨rfl, rfl⟩) | (go_at_call 38; (with_reducible refine (CC.out _).mono ?_); rintro e w' ⟨rfl, rfl⟩))
  go_ret
  exact ⟨rfl, rfl⟩
set_option maxRecDepth 100000 in
set_option maxHeartbeats 2000000 in
theorem at2_b (sy sx : Bool) (ry rx : Nat) (w : World) (hy : ry < top) (hx : rx < top) (h : ry = 0) (hs : sx = true) (hr : rx ≠ 0) : Calls Tryd.prog 29 #[.float .f64 (F.word sy ry), .float .f64 (F.word sx rx)] w fun e w' => e = .returned (.float .f64 (F.word sy 4614256656552045848)) ∧ w = w' := by
  have CN1 := Lib.hid (fun w => nan23_c (F.word sy ry) w (word_fin sy ry hy))
  have CN2 := Lib.hid (fun w => nan23_c (F.word sx rx) w (word_fin sx rx hx))
  have CS := Lib.hid (fun w => sign25_c sx rx w hx)
  have CI1 := Lib.hid (fun w => inf27_c sx rx w hx)
  have CI2 := Lib.hid (fun w => inf27_c sy ry w hy)
  have CC := Lib.hid (fun w => copy_pi sy ry w (by omega))
  have e1 : (FloatKind.f64.format.order (F.word sy ry) 0 == some .eq) = true := by subst h; cases sy <;> decide +kernel
  subst hs
  have e2 : (FloatKind.f64.format.order (F.word true rx) 0 == some .gt || FloatKind.f64.format.order (F.word true rx) 0 == some .eq) = false := (word_ord1 true rx hr hx).1
  clear hy hx h hr
  generalize F.word sy ry = Y at *
  generalize F.word true rx = X at *
  go_enter Tryd.func29, Tryd.ntmps29
  go_wp2_with (first | (go_at_call 35; (with_reducible refine (CN1.out _).mono ?_); rintro e w' ⟨rfl, rfl⟩) | (go_at_call 35; (with_reducible refine (CN2.out _).mono ?_); rintro e w' ⟨rfl, rfl⟩) | (go_at_call 37; (with_reducible refine (CS.out _).mono ?_); rintro e w' ⟨rfl, rfl⟩) | (go_at_call 38; (with_reducible refine (CC.out _).mono ?_); rintro e w' ⟨rfl, rfl⟩))
  go_ret
  exact ⟨rfl, rfl⟩
set_option maxRecDepth 100000 in
set_option maxHeartbeats 2000000 in
theorem at2_c (sy sx : Bool) (ry rx : Nat) (w : World) (hy : ry < top) (hx : rx < top) (h : ry = 0) (hs : sx = true) (hr : rx = 0) : Calls Tryd.prog 29 #[.float .f64 (F.word sy ry), .float .f64 (F.word sx rx)] w fun e w' => e = .returned (.float .f64 (F.word sy 4614256656552045848)) ∧ w = w' := by
  have CN1 := Lib.hid (fun w => nan23_c (F.word sy ry) w (word_fin sy ry hy))
  have CN2 := Lib.hid (fun w => nan23_c (F.word sx rx) w (word_fin sx rx hx))
  have CS := Lib.hid (fun w => sign25_c sx rx w hx)
  have CI1 := Lib.hid (fun w => inf27_c sx rx w hx)
  have CI2 := Lib.hid (fun w => inf27_c sy ry w hy)
  have CC := Lib.hid (fun w => copy_pi sy ry w (by omega))
  have e1 : (FloatKind.f64.format.order (F.word sy ry) 0 == some .eq) = true := by subst h; cases sy <;> decide +kernel
  subst hs
  have e2 : (FloatKind.f64.format.order (F.word true rx) 0 == some .gt || FloatKind.f64.format.order (F.word true rx) 0 == some .eq) = true := by subst hr; decide +kernel
  clear hy hx h hr
  generalize F.word sy ry = Y at *
  generalize F.word true rx = X at *
  go_enter Tryd.func29, Tryd.ntmps29
  go_wp2_with (first | (go_at_call 35; (with_reducible refine (CN1.out _).mono ?_); rintro e w' ⟨rfl, rfl⟩) | (go_at_call 35; (with_reducible refine (CN2.out _).mono ?_); rintro e w' ⟨rfl, rfl⟩) | (go_at_call 37; (with_reducible refine (CS.out _).mono ?_); rintro e w' ⟨rfl, rfl⟩) | (go_at_call 38; (with_reducible refine (CC.out _).mono ?_); rintro e w' ⟨rfl, rfl⟩))
  go_ret
  exact ⟨rfl, rfl⟩
set_option maxRecDepth 100000 in
set_option maxHeartbeats 2000000 in
theorem at2_d (sy sx : Bool) (ry rx : Nat) (w : World) (hy : ry < top) (hx : rx < top) (h : ry ≠ 0) (hr : rx = 0) : Calls Tryd.prog 29 #[.float .f64 (F.word sy ry), .float .f64 (F.word sx rx)] w fun e w' => e = .returned (.float .f64 (F.word sy 4609753056924675352)) ∧ w = w' := by
  have CN1 := Lib.hid (fun w => nan23_c (F.word sy ry) w (word_fin sy ry hy))
  have CN2 := Lib.hid (fun w => nan23_c (F.word sx rx) w (word_fin sx rx hx))
  have CS := Lib.hid (fun w => sign25_c sx rx w hx)
  have CI1 := Lib.hid (fun w => inf27_c sx rx w hx)
  have CI2 := Lib.hid (fun w => inf27_c sy ry w hy)
  have CC := Lib.hid (fun w => copy_pi2 sy ry w (by omega))
  have e1 : (FloatKind.f64.format.order (F.word sy ry) 0 == some .eq) = false := (word_ord0 sy ry h (by omega)).1
  have e2 : (FloatKind.f64.format.order (F.word sx rx) 0 == some .eq) = true := by subst hr; cases sx <;> decide +kernel
  clear hy hx h hr
  generalize F.word sy ry = Y at *
  generalize F.word sx rx = X at *
  go_enter Tryd.func29, Tryd.ntmps29
  go_wp2_with (first | (go_at_call 35; (with_reducible refine (CN1.out _).mono ?_); rintro e w' ⟨rfl, rfl⟩) | (go_at_call 35; (with_reducible refine (CN2.out _).mono ?_); rintro e w' ⟨rfl, rfl⟩) | (go_at_call 38; (with_reducible refine (CC.out _).mono ?_); rintro e w' ⟨rfl, rfl⟩))
  go_ret
  exact ⟨rfl, rfl⟩
set_option maxRecDepth 100000 in
set_option maxHeartbeats 2000000 in
theorem at2_e (sy sx : Bool) (ry rx : Nat) (w : World) (hy : ry < top) (hx : rx < top) (h : ry ≠ 0) (hr : rx ≠ 0) (s : Bool) (rr t : Nat) (hrr : rr ≤ top) (hq : floatBits .quo .f64 (F.word sy ry) (F.word sx rx) = some (F.word s rr)) (ht : rr ≠ 0 → SatP (F.word false rr) t) (hs : sx = false) : Calls Tryd.prog 29 #[.float .f64 (F.word sy ry), .float .f64 (F.word sx rx)] w fun e w' => e = .returned (.float .f64 (at0 s rr t)) ∧ w = w' := by
  have CN1 := Lib.hid (fun w => nan23_c (F.word sy ry) w (word_fin sy ry hy))
  have CN2 := Lib.hid (fun w => nan23_c (F.word sx rx) w (word_fin sx rx hx))
  have CS := Lib.hid (fun w => sign25_c sx rx w hx)
  have CI1 := Lib.hid (fun w => inf27_c sx rx w hx)
  have CI2 := Lib.hid (fun w => inf27_c sy ry w hy)
  have e1 : (FloatKind.f64.format.order (F.word sy ry) 0 == some .eq) = false := (word_ord0 sy ry h (by omega)).1
  have e2 : (FloatKind.f64.format.order (F.word sx rx) 0 == some .eq) = false := (word_ord0 sx rx hr (by omega)).1
  have e3 : (FloatKind.f64.format.order (F.word sx rx) 0 == some .lt) = sx := (word_ord1 sx rx hr hx).2
  have CA := Lib.hid (fun w => atan28_c s rr t w hrr ht)
  have kq := fun w => run_float_arith (P := Tryd.prog) w .quo 22 .f64 _ _ _ hq
  replace e3 := e3.trans hs
  clear hy hx h hr hq ht hs
  generalize F.word sy ry = Y at *
  generalize F.word sx rx = X at *
  generalize F.word s rr = R at *
  generalize at0 s rr t = q0 at *
  go_enter Tryd.func29, Tryd.ntmps29
  go_wp2_with (first | (go_at_call 35; (with_reducible refine (CN1.out _).mono ?_); rintro e w' ⟨rfl, rfl⟩) | (go_at_call 35; (with_reducible refine (CN2.out _).mono ?_); rintro e w' ⟨rfl, rfl⟩) | (go_at_call 39; (with_reducible refine (CI1.out _).mono ?_); rintro e w' ⟨rfl, rfl⟩) | (go_at_call 39; (with_reducible refine (CI2.out _).mono ?_); rintro e w' ⟨rfl, rfl⟩) | (go_at_call 40; (with_reducible refine (CA.out _).mono ?_); rintro e w' ⟨rfl, rfl⟩))
  go_ret
  exact ⟨rfl, rfl⟩
set_option maxRecDepth 100000 in
set_option maxHeartbeats 2000000 in
theorem at2_f (sy sx : Bool) (ry rx : Nat) (w : World) (hy : ry < top) (hx : rx < top) (h : ry ≠ 0) (hr : rx ≠ 0) (s : Bool) (rr t : Nat) (hrr : rr ≤ top) (hq : floatBits .quo .f64 (F.word sy ry) (F.word sx rx) = some (F.word s rr)) (ht : rr ≠ 0 → SatP (F.word false rr) t) (hs : sx = true) (q : Nat) (hl : leB (at0 s rr t) 0 = true) (ha : floatBits .add .f64 (at0 s rr t) 4614256656552045848 = some q) : Calls Tryd.prog 29 #[.float .f64 (F.word sy ry), .float .f64 (F.word sx rx)] w fun e w' => e = .returned (.float .f64 q) ∧ w = w' := by
  have CN1 := Lib.hid (fun w => nan23_c (F.word sy ry) w (word_fin sy ry hy))
  have CN2 := Lib.hid (fun w => nan23_c (F.word sx rx) w (word_fin sx rx hx))
  have CS := Lib.hid (fun w => sign25_c sx rx w hx)
  have CI1 := Lib.hid (fun w => inf27_c sx rx w hx)
  have CI2 := Lib.hid (fun w => inf27_c sy ry w hy)
  have e1 : (FloatKind.f64.format.order (F.word sy ry) 0 == some .eq) = false := (word_ord0 sy ry h (by omega)).1
  have e2 : (FloatKind.f64.format.order (F.word sx rx) 0 == some .eq) = false := (word_ord0 sx rx hr (by omega)).1
  have e3 : (FloatKind.f64.format.order (F.word sx rx) 0 == some .lt) = sx := (word_ord1 sx rx hr hx).2
  have CA := Lib.hid (fun w => atan28_c s rr t w hrr ht)
  have kq := fun w => run_float_arith (P := Tryd.prog) w .quo 22 .f64 _ _ _ hq
  replace e3 := e3.trans hs
  have e4 : (FloatKind.f64.format.order (at0 s rr t) 0 == some .lt || FloatKind.f64.format.order (at0 s rr t) 0 == some .eq) = true := hl
  have ka := fun w => run_float_arith (P := Tryd.prog) w .add 22 .f64 _ _ _ ha
  clear hy hx h hr hq ht hs hl ha
  generalize F.word sy ry = Y at *
  generalize F.word sx rx = X at *
  generalize F.word s rr = R at *
  generalize at0 s rr t = q0 at *
  go_enter Tryd.func29, Tryd.ntmps29
  go_wp2_with (first | (go_at_call 35; (with_reducible refine (CN1.out _).mono ?_); rintro e w' ⟨rfl, rfl⟩) | (go_at_call 35; (with_reducible refine (CN2.out _).mono ?_); rintro e w' ⟨rfl, rfl⟩) | (go_at_call 39; (with_reducible refine (CI1.out _).mono ?_); rintro e w' ⟨rfl, rfl⟩) | (go_at_call 39; (with_reducible refine (CI2.out _).mono ?_); rintro e w' ⟨rfl, rfl⟩) | (go_at_call 40; (with_reducible refine (CA.out _).mono ?_); rintro e w' ⟨rfl, rfl⟩))
  go_ret
  exact ⟨rfl, rfl⟩
set_option maxRecDepth 100000 in
set_option maxHeartbeats 2000000 in
theorem at2_g (sy sx : Bool) (ry rx : Nat) (w : World) (hy : ry < top) (hx : rx < top) (h : ry ≠ 0) (hr : rx ≠ 0) (s : Bool) (rr t : Nat) (hrr : rr ≤ top) (hq : floatBits .quo .f64 (F.word sy ry) (F.word sx rx) = some (F.word s rr)) (ht : rr ≠ 0 → SatP (F.word false rr) t) (hs : sx = true) (q : Nat) (hl : leB (at0 s rr t) 0 = false) (ha : floatBits .sub .f64 (at0 s rr t) 4614256656552045848 = some q) : Calls Tryd.prog 29 #[.float .f64 (F.word sy ry), .float .f64 (F.word sx rx)] w fun e w' => e = .returned (.float .f64 q) ∧ w = w' := by
  have CN1 := Lib.hid (fun w => nan23_c (F.word sy ry) w (word_fin sy ry hy))
  have CN2 := Lib.hid (fun w => nan23_c (F.word sx rx) w (word_fin sx rx hx))
  have CS := Lib.hid (fun w => sign25_c sx rx w hx)
  have CI1 := Lib.hid (fun w => inf27_c sx rx w hx)
  have CI2 := Lib.hid (fun w => inf27_c sy ry w hy)
  have e1 : (FloatKind.f64.format.order (F.word sy ry) 0 == some .eq) = false := (word_ord0 sy ry h (by omega)).1
  have e2 : (FloatKind.f64.format.order (F.word sx rx) 0 == some .eq) = false := (word_ord0 sx rx hr (by omega)).1
  have e3 : (FloatKind.f64.format.order (F.word sx rx) 0 == some .lt) = sx := (word_ord1 sx rx hr hx).2
  have CA := Lib.hid (fun w => atan28_c s rr t w hrr ht)
  have kq := fun w => run_float_arith (P := Tryd.prog) w .quo 22 .f64 _ _ _ hq
  replace e3 := e3.trans hs
  have e4 : (FloatKind.f64.format.order (at0 s rr t) 0 == some .lt || FloatKind.f64.format.order (at0 s rr t) 0 == some .eq) = false := hl
  have ka := fun w => run_float_arith (P := Tryd.prog) w .sub 22 .f64 _ _ _ ha
  clear hy hx h hr hq ht hs hl ha
  generalize F.word sy ry = Y at *
  generalize F.word sx rx = X at *
  generalize F.word s rr = R at *
  generalize at0 s rr t = q0 at *
  go_enter Tryd.func29, Tryd.ntmps29
  go_wp2_with (first | (go_at_call 35; (with_reducible refine (CN1.out _).mono ?_); rintro e w' ⟨rfl, rfl⟩) | (go_at_call 35; (with_reducible refine (CN2.out _).mono ?_); rintro e w' ⟨rfl, rfl⟩) | (go_at_call 39; (with_reducible refine (CI1.out _).mono ?_); rintro e w' ⟨rfl, rfl⟩) | (go_at_call 39; (with_reducible refine (CI2.out _).mono ?_); rintro e w' ⟨rfl, rfl⟩) | (go_at_call 40; (with_reducible refine (CA.out _).mono ?_); rintro e w' ⟨rfl, rfl⟩))
  go_ret
  exact ⟨rfl, rfl⟩
end Go.Proofs.YtkbgkogfjfojgaaDoor

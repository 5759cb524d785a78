/- The law's walk. -/
import Derived.Test.YtkbgkogfjfojgaaDoorLw
import Derived.Deep.Cut
set_option linter.unusedSimpArgs false
set_option linter.unusedVariables false
namespace Go.Proofs.YtkbgkogfjfojgaaDoor
open Go.RowKit Go.Sort
open Flt Ieee
set_option maxRecDepth 100000 in
set_option maxHeartbeats 4000000 in
theorem abs8_c (x : Nat) (w : World) : Calls Tryd.prog 8 #[.float .f64 x] w fun e w' => e = .returned (.float .f64 (absB x)) ∧ w = w' := by
  have kn := neg_fl
  unfold absB ltB
  cases h : (FloatKind.f64.format.order x 0 == some .lt)
  · have v1 : (FloatKind.f64.format.order x 0 == some .lt) = false := h
    clear h
    go_enter Tryd.func8, Tryd.ntmps8
    go_wp2
    go_ret
    exact ⟨rfl, rfl⟩
  · have v1 : (FloatKind.f64.format.order x 0 == some .lt) = true := h
    clear h
    go_enter Tryd.func8, Tryd.ntmps8
    go_wp2
    go_ret
    exact ⟨rfl, rfl⟩
set_option maxRecDepth 100000 in
set_option maxHeartbeats 4000000 in
theorem mag4_c (x : Nat) (w : World) : Calls Tryd.prog 4 #[.float .f64 x] w fun e w' => e = .returned (.bool (magB x)) ∧ w = w' := by
  have C := Lib.hid (fun w => abs8_c x w)
  unfold magB
  generalize hA : absB x = A at *
  unfold eqB geB leB
  cases h1 : (FloatKind.f64.format.order x 0 == some .eq)
  · have v1 : (FloatKind.f64.format.order x 0 == some .eq) = false := h1
    clear h1
    cases h2 : (FloatKind.f64.format.order A 3110860544497550640 == some .gt || FloatKind.f64.format.order A 3110860544497550640 == some .eq)
    · have v2 : (FloatKind.f64.format.order A 3110860544497550640 == some .gt || FloatKind.f64.format.order A 3110860544497550640 == some .eq) = false := h2
      clear h2 hA
      go_enter Tryd.func4, Tryd.ntmps4
      go_wp2_with (go_at_call 8; (with_reducible refine (C.out _).mono ?_); rintro e w7 ⟨rfl, rfl⟩)
      go_ret
      exact ⟨rfl, rfl⟩
    · have v2 : (FloatKind.f64.format.order A 3110860544497550640 == some .gt || FloatKind.f64.format.order A 3110860544497550640 == some .eq) = true := h2
      clear h2 hA
      cases h3 : (FloatKind.f64.format.order A 6103021453049119613 == some .lt || FloatKind.f64.format.order A 6103021453049119613 == some .eq)
      · have v3 : (FloatKind.f64.format.order A 6103021453049119613 == some .lt || FloatKind.f64.format.order A 6103021453049119613 == some .eq) = false := h3
        clear h3
        go_enter Tryd.func4, Tryd.ntmps4
        go_wp2_with (go_at_call 8; (with_reducible refine (C.out _).mono ?_); rintro e w7 ⟨rfl, rfl⟩)
        go_ret
        exact ⟨rfl, rfl⟩
      · have v3 : (FloatKind.f64.format.order A 6103021453049119613 == some .lt || FloatKind.f64.format.order A 6103021453049119613 == some .eq) = true := h3
        clear h3
        go_enter Tryd.func4, Tryd.ntmps4
        go_wp2_with (go_at_call 8; (with_reducible refine (C.out _).mono ?_); rintro e w7 ⟨rfl, rfl⟩)
        go_ret
        exact ⟨rfl, rfl⟩
  · have v1 : (FloatKind.f64.format.order x 0 == some .eq) = true := h1
    clear h1 hA
    go_enter Tryd.func4, Tryd.ntmps4
    go_wp2
    go_ret
    exact ⟨rfl, rfl⟩
set_option maxRecDepth 100000 in
set_option maxHeartbeats 4000000 in
theorem same6_c (x : Nat) (w : World) : Calls Tryd.prog 6 #[.float .f64 x, .float .f64 x] w fun e w' => e = .returned (.bool true) ∧ w = w' := by
  cases h1 : (FloatKind.f64.format.order x x == some .eq)
  · have v1 : (FloatKind.f64.format.order x x == some .eq) = false := h1
    have v2 : (FloatKind.f64.format.order x x != some .eq) = true := by rw [bne, h1]; rfl
    clear h1
    go_enter Tryd.func6, Tryd.ntmps6
    go_wp2
    go_ret
    exact ⟨rfl, rfl⟩
  · have v1 : (FloatKind.f64.format.order x x == some .eq) = true := h1
    clear h1
    go_enter Tryd.func6, Tryd.ntmps6
    go_wp2
    go_ret
    exact ⟨rfl, rfl⟩
set_option maxRecDepth 100000 in
set_option maxHeartbeats 4000000 in
theorem law_c (l a b : Nat) (w : World) (wa : a < 2 ^ 64) (wb : b < 2 ^ 64) (hT : Tab w) : Calls Tryd.prog 3 #[.float .f64 l, .float .f64 a, .float .f64 b] w fun e w' => e = .returned (.bool true) ∧ Below w.heap.size w w' := by
  have M := Lib.hid mag4_c
  cases ma : magB a
  · have Ma := Lib.hid (fun w => ma ▸ mag4_c a w)
    clear hT wa wb M
    go_enter Tryd.func3, Tryd.ntmps3
    go_wp2_with (go_at_call 4; (with_reducible refine (Ma.out _).mono ?_); rintro e w7 ⟨rfl, rfl⟩)
    refine bodyPost_ret (v := .bool true) (by simp [results, Tryd.results3, go_sem]) rfl ⟨rfl, Below.refl _ _⟩
  cases mb : magB b
  · have Ma := Lib.hid (fun w => ma ▸ mag4_c a w)
    have Mb := Lib.hid (fun w => mb ▸ mag4_c b w)
    clear hT wa wb M
    go_enter Tryd.func3, Tryd.ntmps3
    go_wp2_with first | (go_at_call 4; (with_reducible refine (Ma.out _).mono ?_); rintro e w7 ⟨rfl, rfl⟩) | (go_at_call 4; (with_reducible refine (Mb.out _).mono ?_); rintro e w7 ⟨rfl, rfl⟩)
    refine bodyPost_ret (v := .bool true) (by simp [results, Tryd.results3, go_sem]) rfl ⟨rfl, Below.refl _ _⟩
  obtain ⟨C, H, a2, b2, tol, d1, d2, L⟩ := law_any l a b wa wb ma mb
  have Ma := Lib.hid (fun w => ma ▸ mag4_c a w)
  have Mb := Lib.hid (fun w => mb ▸ mag4_c b w)
  have K5 := Lib.hid (fun w => z5_c l a b C H w L.thr)
  have K7 := Lib.hid (fun w hT => z7_c l C H a2 b2 w L.fro hT)
  have K6 := Lib.hid (fun w => same6_c l w)
  have K8 := Lib.hid (fun w => abs8_c d1 w)
  have K9 := Lib.hid (fun w => abs8_c d2 w)
  have T := Lib.hid hT
  have v1 : (FloatKind.f64.format.order C 0 == some .gt || FloatKind.f64.format.order C 0 == some .eq) = true := L.c0
  have v2 : (FloatKind.f64.format.order H 0 == some .gt || FloatKind.f64.format.order H 0 == some .eq) = true := L.h0
  have v3 : (FloatKind.f64.format.order H 4645040803167600640 == some .lt || FloatKind.f64.format.order H 4645040803167600640 == some .eq) = true := L.h1
  have v4 := L.k1
  have v5 := L.k2
  generalize absB d1 = D1 at *
  generalize absB d2 = D2 at *
  replace v4 : (FloatKind.f64.format.order D1 tol == some .lt || FloatKind.f64.format.order D1 tol == some .eq) = true := v4
  replace v5 : (FloatKind.f64.format.order D2 tol == some .lt || FloatKind.f64.format.order D2 tol == some .eq) = true := v5
  have k1 := fun w => run_float_arith (P := Tryd.prog) w .mul 22 .f64 4427486594234968593 C tol L.t
  have k2 := fun w => run_float_arith (P := Tryd.prog) w .sub 22 .f64 a2 a d1 L.s1
  have k3 := fun w => run_float_arith (P := Tryd.prog) w .sub 22 .f64 b2 b d2 L.s2
  clear L hT wa wb ma mb M
  go_enter Tryd.func3, Tryd.ntmps3
  go_wp2_with first | (go_at_call 4; (with_reducible refine (Ma.out _).mono ?_); rintro e w7 ⟨rfl, rfl⟩) | (go_at_call 4; (with_reducible refine (Mb.out _).mono ?_); rintro e w7 ⟨rfl, rfl⟩) | (go_at_call 5; (with_reducible refine (K5.out _).mono ?_); rintro e w5 ⟨rfl, h5⟩) | (go_at_call 6; (with_reducible refine (K6.out _).mono ?_); rintro e w7 ⟨rfl, rfl⟩) | (go_at_call 7; (with_reducible refine (K7.out _ (T.out.below h5)).mono ?_); rintro e w6 ⟨rfl, h6⟩) | (go_at_call 8; (with_reducible refine (K8.out _).mono ?_); rintro e w7 ⟨rfl, rfl⟩) | (go_at_call 8; (with_reducible refine (K9.out _).mono ?_); rintro e w7 ⟨rfl, rfl⟩)
  refine bodyPost_ret (v := .bool true) (by simp [results, Tryd.results3, go_sem]) rfl ⟨rfl, h5.trans (h6.mono h5.size)⟩
end Go.Proofs.YtkbgkogfjfojgaaDoor

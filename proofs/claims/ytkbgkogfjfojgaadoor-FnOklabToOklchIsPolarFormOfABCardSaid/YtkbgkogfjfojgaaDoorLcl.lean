/- The walks of lch_to_lab, oklab_to_oklch, oklch_to_oklab. -/
import Derived.Test.YtkbgkogfjfojgaaDoorTrg
import Derived.Test.YtkbgkogfjfojgaaDoorAn3
import Derived.Test.YtkbgkogfjfojgaaDoorLch
import Derived.Deep.Cut
set_option linter.unusedSimpArgs false
set_option linter.unusedVariables false
namespace Go.Proofs.YtkbgkogfjfojgaaDoor
open Go.RowKit Go.Sort
open Flt Ieee
theorem Tab.below {w W : World} (h : Tab w) (hb : Below w.heap.size w W) : Tab W := by
  obtain ⟨a0, a1, a2, a3, a4, a5, b0, b1, b2, b3, b4, b5⟩ := h
  exact ⟨after_call hb a0, after_call hb a1, after_call hb a2, after_call hb a3, after_call hb a4, after_call hb a5, after_call hb b0, after_call hb b1, after_call hb b2, after_call hb b3, after_call hb b4, after_call hb b5⟩
theorem Tab.grown {W : World} (h : Tab W) (d : Nat) (os : Array Obj) : Tab (grow (redrawn W d) os) := by
  obtain ⟨a0, a1, a2, a3, a4, a5, b0, b1, b2, b3, b4, b5⟩ := h
  exact ⟨cell_regrown a0 d os, cell_regrown a1 d os, cell_regrown a2 d os, cell_regrown a3 d os, cell_regrown a4 d os, cell_regrown a5 d os, cell_regrown b0 d os, cell_regrown b1 d os, cell_regrown b2 d os, cell_regrown b3 d os, cell_regrown b4 d os, cell_regrown b5 d os⟩
theorem Tab.alloc {W : World} (h : Tab W) (o : Obj) : Tab (W.alloc o) := h.below ((Below.refl _ _).alloc (Nat.le_refl _) _)
set_option maxRecDepth 100000 in
set_option maxHeartbeats 4000000 in
theorem cos26_c (x c : Nat) (w : World) (h : CosC x c) (hT : Tab w) : Calls Tryd.prog 26 #[.float .f64 x] w fun e w' => e = .returned (.float .f64 c) ∧ w = w' := by
  have K := Lib.hid (h w hT)
  clear h hT
  go_enter Tryd.func26, Tryd.ntmps26
  go_wp2_with (go_at_call 32; (with_reducible refine (K.out).mono ?_); rintro e w' ⟨rfl, rfl⟩)
  go_ret
  exact ⟨rfl, rfl⟩
set_option maxRecDepth 100000 in
set_option maxHeartbeats 4000000 in
theorem cos21_c (x c : Nat) (w : World) (h : CosC x c) (hT : Tab w) : Calls Tryd.prog 21 #[fl x] w fun e w' => e = .returned (fl c) ∧ Below w.heap.size w w' := by
  have st := st_fl
  have K := Lib.hid (fun w hT => cos26_c x c w h hT)
  have T := Lib.hid hT
  clear h hT
  go_enter Tryd.func21, Tryd.ntmps21
  go_wp2_with (first | (go_at_call 26; (with_reducible refine (K.out _ ((T.out.alloc _).alloc _)).mono ?_); rintro e w' ⟨rfl, rfl⟩) | (go_at_call 10; refine (new_c _ _).mono ?_; rintro e w' ⟨rfl, rfl⟩))
  refine bodyPost_ret (v := fl c) (by simp [results, Tryd.results21, go_sem]) rfl ⟨rfl, ?_⟩
  repeat (first | exact Below.refl _ _ | refine Below.alloc ?_ (by first | omega | (simp <;> omega)) _)
set_option maxRecDepth 100000 in
set_option maxHeartbeats 4000000 in
theorem sin27_c (x c : Nat) (w : World) (h : SinC x c) (hT : Tab w) : Calls Tryd.prog 27 #[.float .f64 x] w fun e w' => e = .returned (.float .f64 c) ∧ w = w' := by
  have K := Lib.hid (h w hT)
  clear h hT
  go_enter Tryd.func27, Tryd.ntmps27
  go_wp2_with (go_at_call 34; (with_reducible refine (K.out).mono ?_); rintro e w' ⟨rfl, rfl⟩)
  go_ret
  exact ⟨rfl, rfl⟩
set_option maxRecDepth 100000 in
set_option maxHeartbeats 4000000 in
theorem sin23_c (x c : Nat) (w : World) (h : SinC x c) (hT : Tab w) : Calls Tryd.prog 23 #[fl x] w fun e w' => e = .returned (fl c) ∧ Below w.heap.size w w' := by
  have st := st_fl
  have K := Lib.hid (fun w hT => sin27_c x c w h hT)
  have T := Lib.hid hT
  clear h hT
  go_enter Tryd.func23, Tryd.ntmps23
  go_wp2_with (first | (go_at_call 27; (with_reducible refine (K.out _ ((T.out.alloc _).alloc _)).mono ?_); rintro e w' ⟨rfl, rfl⟩) | (go_at_call 10; refine (new_c _ _).mono ?_; rintro e w' ⟨rfl, rfl⟩))
  refine bodyPost_ret (v := fl c) (by simp [results, Tryd.results23, go_sem]) rfl ⟨rfl, ?_⟩
  repeat (first | exact Below.refl _ _ | refine Below.alloc ?_ (by first | omega | (simp <;> omega)) _)
set_option maxRecDepth 100000 in
set_option maxHeartbeats 4000000 in
theorem lcl_c (l c h rad cv sv a2 b2 : Nat) (w : World) (F1 : floatBits .mul .f64 h 4580687790476533049 = some rad) (Cc : CosC rad cv) (Cs : SinC rad sv) (F2 : floatBits .mul .f64 cv c = some a2) (F3 : floatBits .mul .f64 sv c = some b2) (hT : Tab w) : Calls Tryd.prog 14 #[fl l, fl c, fl h] w fun e w' => e = .returned (.tuple #[fl l, fl a2, fl b2]) ∧ Below w.heap.size w w' := by
  have st := st_fl
  have F1' := Lib.hid F1; have F2' := Lib.hid F2; have F3' := Lib.hid F3
  have T := Lib.hid hT
  have KC := Lib.hid (fun w hT => cos21_c rad cv w Cc hT)
  have KS := Lib.hid (fun w hT => sin23_c rad sv w Cs hT)
  clear F1 F2 F3 Cc Cs hT
  go_enter Tryd.func14, Tryd.ntmps14
  go_upto_region 1 with (fail)
  refine wp_gen fun W0 hW => ?_
  have H : CL w [(w.heap.size + 1 + 1 + 1 + 1 + 1, 0), (w.heap.size + 1 + 1 + 1 + 1, 0), (w.heap.size + 1 + 1 + 1, 0), (w.heap.size + 1 + 1, h), (w.heap.size + 1, c), (w.heap.size, l)] W0 := by rw [hW]; have := ((((((CL.start w).new l 30).new c 30).new h 30).new 0 30).new 0 30).new 0 30; simpa using this
  clear hW
  have TT := T.out.below H.bel
  have g1 := fun d os => cell_regrown (H.at_ 5 rfl) d os
  have g2 := fun d os => cell_regrown (H.at_ 4 rfl) d os
  have g3 := fun d os => cell_regrown (H.at_ 3 rfl) d os
  refine drawn_tail 11 (by kernel_rfl) (by kernel_rfl) (by kernel_rfl) (fun Q hQ => ?_)
  simp only [List.take_succ_cons, List.take_zero, List.drop_succ_cons, List.drop_zero]
  repeat (quiet_step (first | exact Calls.regrown_of (mulK_c _ _ _ _ F1'.out) | exact Calls.regrown_of (KC.out _ (TT.grown _ _)) | exact Calls.regrown_of (KS.out _ (TT.grown _ _)) | exact Calls.regrown_of (mul_c _ _ _ _ F2'.out) | exact Calls.regrown_of (mul_c _ _ _ _ F3'.out)))
  refine wpQuiet_nil ?_
  clear g1 g2 g3
  intro W4 hw
  replace H := H.regrown hw
  clear hw
  have c6 := H.at_ 2 rfl; have c7 := H.at_ 1 rfl; have c8 := H.at_ 0 rfl; have f6 := H.fz 2 rfl; have f7 := H.fz 1 rfl; have f8 := H.fz 0 rfl
  have hB := (((H.set 2 l rfl).set 1 a2 rfl).set 0 b2 rfl).bel
  clear H TT
  go_wp2
  exact bodyPost_ret (v := .tuple #[fl l, fl a2, fl b2]) (by simp [results, Tryd.results14, go_sem, c6, c7, c8]) rfl ⟨rfl, hB⟩
/-- what lab_to_lch (13), lch_to_lab (14) give -/
def To (l a b c h : Nat) : Prop := ∀ w, Calls Tryd.prog 13 #[fl l, fl a, fl b] w fun e w' => e = .returned (.tuple #[fl l, fl c, fl h]) ∧ Below w.heap.size w w'
def Fro (l c h a b : Nat) : Prop := ∀ w, Tab w → Calls Tryd.prog 14 #[fl l, fl c, fl h] w fun e w' => e = .returned (.tuple #[fl l, fl a, fl b]) ∧ Below w.heap.size w w'
set_option maxRecDepth 100000 in
set_option maxHeartbeats 4000000 in
theorem w9_c (l a b r1 r2 : Nat) (w : World) (h : To l a b r1 r2) : Calls Tryd.prog 9 #[fl l, fl a, fl b] w fun e w' => e = .returned (.tuple #[fl l, fl r1, fl r2]) ∧ Below w.heap.size w w' := by
  have st := st_fl
  have K := Lib.hid (show ∀ w, Calls Tryd.prog 13 #[fl l, fl a, fl b] w fun e w' => e = .returned (.tuple #[fl l, fl r1, fl r2]) ∧ Below w.heap.size w w' from h)
  clear h
  go_enter Tryd.func9, Tryd.ntmps9
  go_upto_region 1 with (fail)
  refine wp_gen fun W0 hW => ?_
  have H : CL w [(w.heap.size + 1 + 1 + 1 + 1 + 1, 0), (w.heap.size + 1 + 1 + 1 + 1, 0), (w.heap.size + 1 + 1 + 1, 0), (w.heap.size + 1 + 1, b), (w.heap.size + 1, a), (w.heap.size, l)] W0 := by rw [hW]; have := ((((((CL.start w).new l 30).new a 30).new b 30).new 0 30).new 0 30).new 0 30; simpa using this
  clear hW
  have g1 := H.at_ 3 rfl; have g2 := H.at_ 4 rfl; have g3 := H.at_ 5 rfl
  have c6 := H.at_ 2 rfl; have c7 := H.at_ 1 rfl; have c8 := H.at_ 0 rfl; have f6 := H.fz 2 rfl; have f7 := H.fz 1 rfl; have f8 := H.fz 0 rfl
  have TT := True.intro
  go_wp2_with (go_at_call 13; (with_reducible refine (K.out _).mono ?_); rintro e w' ⟨rfl, hb⟩; replace H := H.after hb; clear hb; replace g1 := H.at_ 3 rfl; replace g2 := H.at_ 4 rfl; replace g3 := H.at_ 5 rfl; replace c6 := H.at_ 2 rfl; replace c7 := H.at_ 1 rfl; replace c8 := H.at_ 0 rfl; replace f6 := H.fz 2 rfl; replace f7 := H.fz 1 rfl; replace f8 := H.fz 0 rfl)
  have hB := (((H.set 2 l rfl).set 1 r1 rfl).set 0 r2 rfl).bel
  exact bodyPost_ret (v := .tuple #[fl l, fl r1, fl r2]) (by simp [results, Tryd.results9, go_sem, c6, c7, c8]) rfl ⟨rfl, hB⟩
set_option maxRecDepth 100000 in
set_option maxHeartbeats 4000000 in
theorem w12_c (l a b r1 r2 : Nat) (w : World) (h : Fro l a b r1 r2) (hT : Tab w) : Calls Tryd.prog 12 #[fl l, fl a, fl b] w fun e w' => e = .returned (.tuple #[fl l, fl r1, fl r2]) ∧ Below w.heap.size w w' := by
  have st := st_fl
  have K := Lib.hid (show ∀ w, Tab w → Calls Tryd.prog 14 #[fl l, fl a, fl b] w fun e w' => e = .returned (.tuple #[fl l, fl r1, fl r2]) ∧ Below w.heap.size w w' from h)
  have T := Lib.hid hT
  clear h hT
  go_enter Tryd.func12, Tryd.ntmps12
  go_upto_region 1 with (fail)
  refine wp_gen fun W0 hW => ?_
  have H : CL w [(w.heap.size + 1 + 1 + 1 + 1 + 1, 0), (w.heap.size + 1 + 1 + 1 + 1, 0), (w.heap.size + 1 + 1 + 1, 0), (w.heap.size + 1 + 1, b), (w.heap.size + 1, a), (w.heap.size, l)] W0 := by rw [hW]; have := ((((((CL.start w).new l 30).new a 30).new b 30).new 0 30).new 0 30).new 0 30; simpa using this
  clear hW
  have g1 := H.at_ 3 rfl; have g2 := H.at_ 4 rfl; have g3 := H.at_ 5 rfl
  have c6 := H.at_ 2 rfl; have c7 := H.at_ 1 rfl; have c8 := H.at_ 0 rfl; have f6 := H.fz 2 rfl; have f7 := H.fz 1 rfl; have f8 := H.fz 0 rfl
  have TT := T.out.below H.bel
  go_wp2_with (go_at_call 14; (with_reducible refine (K.out _ TT).mono ?_); rintro e w' ⟨rfl, hb⟩; replace H := H.after hb; clear hb; replace g1 := H.at_ 3 rfl; replace g2 := H.at_ 4 rfl; replace g3 := H.at_ 5 rfl; replace c6 := H.at_ 2 rfl; replace c7 := H.at_ 1 rfl; replace c8 := H.at_ 0 rfl; replace f6 := H.fz 2 rfl; replace f7 := H.fz 1 rfl; replace f8 := H.fz 0 rfl)
  have hB := (((H.set 2 l rfl).set 1 r1 rfl).set 0 r2 rfl).bel
  exact bodyPost_ret (v := .tuple #[fl l, fl r1, fl r2]) (by simp [results, Tryd.results12, go_sem, c6, c7, c8]) rfl ⟨rfl, hB⟩
set_option maxRecDepth 100000 in
set_option maxHeartbeats 4000000 in
theorem z5_c (l a b r1 r2 : Nat) (w : World) (h : To l a b r1 r2) : Calls Tryd.prog 5 #[.float .f64 l, .float .f64 a, .float .f64 b] w fun e w' => e = .returned (.tuple #[.float .f64 l, .float .f64 r1, .float .f64 r2]) ∧ Below w.heap.size w w' := by
  have st := st_fl
  have C := Lib.hid (fun w => w9_c l a b r1 r2 w h)
  clear h
  go_enter Tryd.func5, Tryd.ntmps5
  go_wp2_with (first | (go_at_call 10; refine (new_c _ _).mono ?_; rintro e w' ⟨rfl, rfl⟩) | (go_at_call 9; (with_reducible refine (C.out _).mono ?_); rintro e w' ⟨rfl, hb⟩; replace hb := (show Below w.heap.size w _ by repeat (first | exact Below.refl _ _ | refine Below.alloc ?_ (by first | omega | (simp <;> omega)) _)).trans (hb.mono (by first | omega | (simp <;> omega)))))
  refine wp_gen fun W hW => ?_
  have q0 : W.cell? ⟨w'.heap.size, 0, none⟩ = some (.float .f64 l) := by rw [hW]; simp [go_sem]
  have q1 : W.cell? ⟨w'.heap.size + 1, 0, none⟩ = some (.float .f64 r1) := by rw [hW]; simp [go_sem]
  have q2 : W.cell? ⟨w'.heap.size + 1 + 1, 0, none⟩ = some (.float .f64 r2) := by rw [hW]; simp [go_sem]
  have hB : Below w.heap.size w W := by rw [hW]; have := hb.size; repeat (first | exact hb | refine Below.alloc ?_ (by first | omega | (simp <;> omega)) _)
  clear hW
  have g0 := fun d os => cell_regrown q0 d os
  have g1 := fun d os => cell_regrown q1 d os
  have g2 := fun d os => cell_regrown q2 d os
  refine wp_region_quiet_below (by kernel_rfl) (by kernel_rfl) ?_
  repeat (quiet_step (exact Calls.regrown_of (valB_c _ _)))
  refine wpQuiet_nil ?_
  intro W2 hw'
  have hB2 : Below W.heap.size W W2 := by
    obtain ⟨⟨dq, osq⟩, hw''⟩ := hw'
    rw [hw'']; exact below_regrown W dq osq
  clear hw' g0 g1 g2 q0 q1 q2
  go_wp2
  go_ret3
  exact ⟨rfl, hB.trans (hB2.mono hB.size)⟩
set_option maxRecDepth 100000 in
set_option maxHeartbeats 4000000 in
theorem z7_c (l a b r1 r2 : Nat) (w : World) (h : Fro l a b r1 r2) (hT : Tab w) : Calls Tryd.prog 7 #[.float .f64 l, .float .f64 a, .float .f64 b] w fun e w' => e = .returned (.tuple #[.float .f64 l, .float .f64 r1, .float .f64 r2]) ∧ Below w.heap.size w w' := by
  have st := st_fl
  have C := Lib.hid (fun w hT => w12_c l a b r1 r2 w h hT)
  have T := Lib.hid hT
  clear h hT
  go_enter Tryd.func7, Tryd.ntmps7
  go_wp2_with (first | (go_at_call 10; refine (new_c _ _).mono ?_; rintro e w' ⟨rfl, rfl⟩) | (go_at_call 12; (with_reducible refine (C.out _ (T.out.below (by repeat (first | exact Below.refl _ _ | refine Below.alloc ?_ (by first | omega | (simp <;> omega)) _)))).mono ?_); rintro e w' ⟨rfl, hb⟩; replace hb := (show Below w.heap.size w _ by repeat (first | exact Below.refl _ _ | refine Below.alloc ?_ (by first | omega | (simp <;> omega)) _)).trans (hb.mono (by first | omega | (simp <;> omega)))))
  refine wp_gen fun W hW => ?_
  have q0 : W.cell? ⟨w'.heap.size, 0, none⟩ = some (.float .f64 l) := by rw [hW]; simp [go_sem]
  have q1 : W.cell? ⟨w'.heap.size + 1, 0, none⟩ = some (.float .f64 r1) := by rw [hW]; simp [go_sem]
  have q2 : W.cell? ⟨w'.heap.size + 1 + 1, 0, none⟩ = some (.float .f64 r2) := by rw [hW]; simp [go_sem]
  have hB : Below w.heap.size w W := by rw [hW]; have := hb.size; repeat (first | exact hb | refine Below.alloc ?_ (by first | omega | (simp <;> omega)) _)
  clear hW
  have g0 := fun d os => cell_regrown q0 d os
  have g1 := fun d os => cell_regrown q1 d os
  have g2 := fun d os => cell_regrown q2 d os
  refine wp_region_quiet_below (by kernel_rfl) (by kernel_rfl) ?_
  repeat (quiet_step (exact Calls.regrown_of (valB_c _ _)))
  refine wpQuiet_nil ?_
  intro W2 hw'
  have hB2 : Below W.heap.size W W2 := by
    obtain ⟨⟨dq, osq⟩, hw''⟩ := hw'
    rw [hw'']; exact below_regrown W dq osq
  clear hw' g0 g1 g2 q0 q1 q2
  go_wp2
  go_ret3
  exact ⟨rfl, hB.trans (hB2.mono hB.size)⟩
end Go.Proofs.YtkbgkogfjfojgaaDoor

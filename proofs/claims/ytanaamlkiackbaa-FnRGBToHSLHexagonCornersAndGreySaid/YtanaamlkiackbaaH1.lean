/- Contracts of Min2, Max2, Min3 and of hsl_to_rgb's closure. -/
import Derived.Test.YtanaamlkiackbaaFlo
import Derived.Test.YtanaamlkiackbaaIF
import Derived.Outline
import Derived.Deep.Cut
set_option linter.unusedSimpArgs false
set_option linter.unusedVariables false
namespace Go.Proofs.Ytanaamlkiackbaa
open Go.RowKit Go.Sort
open Flt Ieee
open QTail (ptr)
set_option maxRecDepth 100000 in
theorem min2_c (x y : Nat) (w : World) : Calls Try.prog 42 #[fl x, fl y] w fun e w' => e = .returned (fl (minB x y)) ∧ Below w.heap.size w w' := by
  have st := st_fl
  go_enter Try.func42, Try.ntmps42
  go_wp2_with (first | (go_at_call 49; refine (mmin_c _ _ _).mono ?_; rintro e w' ⟨rfl, rfl⟩) | (go_at_call 20; refine (new_c _ _).mono ?_; rintro e w' ⟨rfl, rfl⟩))
  refine bodyPost_ret (v := fl (minB x y)) (by simp [results, Try.results42, go_sem]) rfl ⟨rfl, ?_⟩
  repeat (first | exact Below.refl _ _ | refine Below.alloc ?_ (by simp <;> omega) _)
set_option maxRecDepth 100000 in
theorem max2_c (x y : Nat) (w : World) : Calls Try.prog 45 #[fl x, fl y] w fun e w' => e = .returned (fl (maxB x y)) ∧ Below w.heap.size w w' := by
  have st := st_fl
  go_enter Try.func45, Try.ntmps45
  go_wp2_with (first | (go_at_call 48; refine (mmax_c _ _ _).mono ?_; rintro e w' ⟨rfl, rfl⟩) | (go_at_call 20; refine (new_c _ _).mono ?_; rintro e w' ⟨rfl, rfl⟩))
  refine bodyPost_ret (v := fl (maxB x y)) (by simp [results, Try.results45, go_sem]) rfl ⟨rfl, ?_⟩
  repeat (first | exact Below.refl _ _ | refine Below.alloc ?_ (by simp <;> omega) _)
set_option maxRecDepth 100000 in
theorem min3_c (x y z : Nat) (w : World) : Calls Try.prog 40 #[fl x, fl y, fl z] w fun e w' => e = .returned (fl (minB (minB x y) z)) ∧ Below w.heap.size w w' := by
  have st := st_fl
  go_enter Try.func40, Try.ntmps40
  go_upto_region 1 with (fail)
  refine wp_gen fun W hW => ?_
  have H : CL w [(w.heap.size + 1 + 1 + 1, 0), (w.heap.size + 1 + 1, z), (w.heap.size + 1, y), (w.heap.size, x)] W := by rw [hW]; have := ((((CL.start w).new x 38).new y 38).new z 38).new 0 38; simpa using this
  clear hW
  have g0 := fun d os => cell_regrown (H.at_ 1 rfl) d os
  have g1 := fun d os => cell_regrown (H.at_ 2 rfl) d os
  have g2 := fun d os => cell_regrown (H.at_ 3 rfl) d os
  refine drawn_tail 9 (by kernel_rfl) (by kernel_rfl) (by kernel_rfl) (fun Q hQ => ?_)
  simp only [List.take_succ_cons, List.take_zero, List.drop_succ_cons, List.drop_zero]
  repeat (quiet_step (first | exact Calls.regrown_of (mminB_c _ _ _) | exact Calls.regrown_of (newB_c _ _)))
  refine wpQuiet_nil ?_
  clear g0 g1 g2
  intro W2 hw
  replace H := H.regrown hw
  clear hw
  have c0 := H.at_ 0 rfl
  have f0 := H.fz 0 rfl
  have hB := (H.set 0 (minB (minB x y) z) rfl).bel
  clear H
  go_wp2
  exact bodyPost_ret (v := fl (minB (minB x y) z)) (by simp [results, Try.results40, go_sem, c0]) rfl ⟨rfl, hB⟩
set_option maxRecDepth 100000 in
theorem max3_c (x y z : Nat) (w : World) : Calls Try.prog 39 #[fl x, fl y, fl z] w fun e w' => e = .returned (fl (maxB (maxB x y) z)) ∧ Below w.heap.size w w' := by
  have st := st_fl
  go_enter Try.func39, Try.ntmps39
  go_upto_region 1 with (fail)
  refine wp_gen fun W hW => ?_
  have H : CL w [(w.heap.size + 1 + 1 + 1, 0), (w.heap.size + 1 + 1, z), (w.heap.size + 1, y), (w.heap.size, x)] W := by rw [hW]; have := ((((CL.start w).new x 38).new y 38).new z 38).new 0 38; simpa using this
  clear hW
  have g0 := fun d os => cell_regrown (H.at_ 1 rfl) d os
  have g1 := fun d os => cell_regrown (H.at_ 2 rfl) d os
  have g2 := fun d os => cell_regrown (H.at_ 3 rfl) d os
  refine drawn_tail 9 (by kernel_rfl) (by kernel_rfl) (by kernel_rfl) (fun Q hQ => ?_)
  simp only [List.take_succ_cons, List.take_zero, List.drop_succ_cons, List.drop_zero]
  repeat (quiet_step (first | exact Calls.regrown_of (mmaxB_c _ _ _) | exact Calls.regrown_of (newB_c _ _)))
  refine wpQuiet_nil ?_
  clear g0 g1 g2
  intro W2 hw
  replace H := H.regrown hw
  clear hw
  have c0 := H.at_ 0 rfl
  have f0 := H.fz 0 rfl
  have hB := (H.set 0 (maxB (maxB x y) z) rfl).bel
  clear H
  go_wp2
  exact bodyPost_ret (v := fl (maxB (maxB x y) z)) (by simp [results, Try.results39, go_sem, c0]) rfl ⟨rfl, hB⟩
set_option maxRecDepth 100000 in
set_option maxHeartbeats 2000000 in
theorem f44_c (n h l s k1 k2 k3 k5 k6 a2 a b1 b3 b6 r p1 p2 p3 : Nat) (w : World) (c1 : w.cell? ⟨p1, 0, none⟩ = some (.float .f64 h)) (c2 : w.cell? ⟨p2, 0, none⟩ = some (.float .f64 l)) (c3 : w.cell? ⟨p3, 0, none⟩ = some (.float .f64 s))
    (F1 : floatBits .quo .f64 h 4629137466983448576 = some k1) (F2 : floatBits .add .f64 k1 n = some k2) (F3 : floatBits .quo .f64 k2 4622945017495814144 = some k3) (F4 : fin k3) (F5 : floatBits .sub .f64 k3 (floorB k3) = some k5)
    (F6 : floatBits .mul .f64 k5 4622945017495814144 = some k6) (F7 : floatBits .add .f64 (negB l) 4607182418800017408 = some a2) (F8 : floatBits .mul .f64 (minB l a2) s = some a)
    (F9 : floatBits .sub .f64 k6 4613937818241073152 = some b1) (F10 : floatBits .add .f64 (negB k6) 4621256167635550208 = some b3)
    (F11 : floatBits .mul .f64 (maxB 13830554455654793216 (minB (minB b1 b3) 4607182418800017408)) a = some b6) (F12 : floatBits .sub .f64 l b6 = some r) :
    Calls Try.prog 44 #[.float .f64 n, ptr p1, ptr p2, ptr p3] w fun e w' => e = .returned (fl r) ∧ Below w.heap.size w w' := by
  have st := st_fl
  have G1 := Lib.hid F1; have G2 := Lib.hid F2; have G3 := Lib.hid F3; have G4 := Lib.hid F4; have G5 := Lib.hid F5; have G6 := Lib.hid F6; have G7 := Lib.hid F7; have G8 := Lib.hid F8; have G9 := Lib.hid F9; have G10 := Lib.hid F10; have G11 := Lib.hid F11; have G12 := Lib.hid F12
  have C1 := Lib.hid c1; have C2 := Lib.hid c2; have C3 := Lib.hid c3
  clear F1 F2 F3 F4 F5 F6 F7 F8 F9 F10 F11 F12 c1 c2 c3
  go_enter Try.func44, Try.ntmps44
  go_upto_region 1 with (fail)
  refine wp_gen fun W0 hW => ?_
  have H : CL w [(w.heap.size, 0)] W0 := by rw [hW]; have := (CL.start w).new 0 38; simpa using this
  clear hW
  have g1 := fun d os => cell_regrown (H.old C1.out) d os
  refine seq_tail 4 (fun Q hQ => ?_)
  simp only [List.take_succ_cons, List.take_zero, List.drop_succ_cons, List.drop_zero]
  repeat (quiet_step (first | exact Calls.regrown_of (divK_c _ _ _ _ G1.out) | exact Calls.regrown_of (addK_c _ _ _ _ G2.out)))
  refine wpQuiet_nil ?_
  clear g1
  intro W2 hw
  replace H := H.regrown hw
  clear hw W0
  go_upto_region 2 with (fail)
  refine wp_gen fun W3 hW => ?_
  replace H := H.new k2 38
  rw [← hW] at H
  clear hW
  generalize W2.heap.size = q1 at *
  clear W2
  have g4 := fun d os => cell_regrown (H.at_ 0 rfl) d os
  refine seq_tail 2 (fun Q hQ => ?_)
  simp only [List.take_succ_cons, List.take_zero, List.drop_succ_cons, List.drop_zero]
  repeat (quiet_step (first | exact Calls.regrown_of (divK_c _ _ _ _ G3.out)))
  refine wpQuiet_nil ?_
  clear g4
  intro W5 hw
  replace H := H.regrown hw
  clear hw W3
  have cz := H.at_ 0 rfl
  have fz := H.fz 0 rfl
  go_upto_region 3 with (fail)
  clear cz fz
  refine wp_gen fun W6 hW => ?_
  replace H : CL w [(q1, k3), (w.heap.size, 0)] W6 := by rw [hW]; exact H.set 0 k3 rfl
  clear hW W5
  have g7 := fun d os => cell_regrown (H.at_ 0 rfl) d os
  refine drawn_tail 4 (by kernel_rfl) (by kernel_rfl) (by kernel_rfl) (fun Q hQ => ?_)
  simp only [List.take_succ_cons, List.take_zero, List.drop_succ_cons, List.drop_zero]
  repeat (quiet_step (first | exact Calls.regrown_of (floorF_c _ _ G4.out) | exact Calls.regrown_of (sub_c _ _ _ _ G5.out)))
  refine wpQuiet_nil ?_
  clear g7
  intro W8 hw
  replace H := H.regrown hw
  clear hw W6
  have cz := H.at_ 0 rfl
  have fz := H.fz 0 rfl
  go_upto_region 4 with (fail)
  clear cz fz
  refine wp_gen fun W9 hW => ?_
  replace H : CL w [(q1, k5), (w.heap.size, 0)] W9 := by rw [hW]; exact H.set 0 k5 rfl
  clear hW W8
  have g10 := fun d os => cell_regrown (H.at_ 0 rfl) d os
  refine seq_tail 2 (fun Q hQ => ?_)
  simp only [List.take_succ_cons, List.take_zero, List.drop_succ_cons, List.drop_zero]
  repeat (quiet_step (first | exact Calls.regrown_of (mulK_c _ _ _ _ G6.out)))
  refine wpQuiet_nil ?_
  clear g10
  intro W11 hw
  replace H := H.regrown hw
  clear hw W9
  have cz := H.at_ 0 rfl
  have fz := H.fz 0 rfl
  go_upto_region 5 with (fail)
  clear cz fz
  refine wp_gen fun W12 hW => ?_
  replace H : CL w [(q1, k6), (w.heap.size, 0)] W12 := by rw [hW]; exact H.set 0 k6 rfl
  clear hW W11
  have e13 := H.old C2.out
  have e14 := H.old C3.out
  refine QTail.wp_region_fun (fun i => [fl l, fl l, fl (negB l), fl a2, fl (minB l a2), fl s, fl a, undef, undef].getD i undef) [(7, 8, .float .f64 a)] (by kernel_rfl) (by kernel_rfl) (by kernel_rfl) ?_ ?_
  · refine ⟨?_, ?_⟩
    · simp only [QTail.kindOf]
      intro vs w' hb hd
      simp [QTail.DepsOK, Region.binds, QTail.isVal] at hd
      simp only [QTail.putA]
      have e13' := (hb.cell (block_lt_of_cell e13)).trans e13
      have e14' := (hb.cell (block_lt_of_cell e14)).trans e14
      clear hb
      go_wp2
      exact Below.refl _ _
    refine ⟨?_, ?_⟩
    · simp only [QTail.kindOf]
      intro vs w' hb hd
      simp [QTail.DepsOK, Region.binds, QTail.isVal] at hd
      simp only [QTail.putA]
      have e13' := (hb.cell (block_lt_of_cell e13)).trans e13
      have e14' := (hb.cell (block_lt_of_cell e14)).trans e14
      clear hb
      go_wp2
      exact Below.refl _ _
    refine ⟨?_, ?_⟩
    · simp only [QTail.kindOf]
      intro vs w' hb hd
      simp [QTail.DepsOK, Region.binds, QTail.isVal] at hd
      simp only [QTail.putA]
      clear hb
      go_wp2_with (refine (neg_c _ _).mono ?_; rintro e u ⟨rfl, hb1⟩)
      try exact hb1
    refine ⟨?_, ?_⟩
    · simp only [QTail.kindOf]
      intro vs w' hb hd
      simp [QTail.DepsOK, Region.binds, QTail.isVal] at hd
      simp only [QTail.putA]
      clear hb
      go_wp2_with (refine (addK_c _ _ _ _ G7.out).mono ?_; rintro e u ⟨rfl, hb1⟩)
      try exact hb1
    refine ⟨?_, ?_⟩
    · simp only [QTail.kindOf]
      intro vs w' hb hd
      simp [QTail.DepsOK, Region.binds, QTail.isVal] at hd
      simp only [QTail.putA]
      clear hb
      go_wp2_with (refine (min2_c _ _ _).mono ?_; rintro e u ⟨rfl, hb1⟩)
      try exact hb1
    refine ⟨?_, ?_⟩
    · simp only [QTail.kindOf]
      intro vs w' hb hd
      simp [QTail.DepsOK, Region.binds, QTail.isVal] at hd
      simp only [QTail.putA]
      have e13' := (hb.cell (block_lt_of_cell e13)).trans e13
      have e14' := (hb.cell (block_lt_of_cell e14)).trans e14
      clear hb
      go_wp2
      exact Below.refl _ _
    refine ⟨?_, ?_⟩
    · simp only [QTail.kindOf]
      intro vs w' hb hd
      simp [QTail.DepsOK, Region.binds, QTail.isVal] at hd
      simp only [QTail.putA]
      clear hb
      go_wp2_with (refine (mul_c _ _ _ _ G8.out).mono ?_; rintro e u ⟨rfl, hb1⟩)
      try exact hb1
    refine ⟨?_, ?_⟩
    · simp only [QTail.kindOf]
      intro vs w'
      simp only [QTail.putA]
      go_wp2
      exact ⟨_, _, rfl⟩
    refine ⟨?_, ?_⟩
    · simp only [QTail.kindOf]
      intro vs w' b x hb hd hc hf
      simp [QTail.DepsOK, Region.binds, QTail.isVal] at hd
      simp only [QTail.putA]
      go_wp2
    trivial
  · intro bk W15 hb hn hne
    obtain ⟨s0, f0, c0⟩ := hn (7, 8, .float .f64 a) (by simp)
    simp only [] at s0 f0 c0
    clear e13 e14 hn hne
    simp only [QTail.putA, QTail.fv, QTail.isVal]
    generalize bk 7 = q2 at *
    have L := H.lt
    have Z := H.bel.size
    replace H := H.add hb s0 c0 f0
    clear hb L Z s0 f0 c0 
    clear W12
    go_upto_region 6 with (fail)
    have g16 := fun d os => cell_regrown (H.old C2.out) d os
    have g17 := fun d os => cell_regrown (H.at_ 0 rfl) d os
    have g18 := fun d os => cell_regrown (H.at_ 1 rfl) d os
    refine drawn_tail 13 (by kernel_rfl) (by kernel_rfl) (by kernel_rfl) (fun Q hQ => ?_)
    simp only [List.take_succ_cons, List.take_zero, List.drop_succ_cons, List.drop_zero]
    repeat (quiet_step (first | exact Calls.regrown_of (newB_c _ _) | exact Calls.regrown_of (subK_c _ _ _ _ G9.out) | exact Calls.regrown_of (neg_c _ _) | exact Calls.regrown_of (addK_c _ _ _ _ G10.out) | exact Calls.regrown_of (min3_c _ _ _ _) | exact Calls.regrown_of (max2_c _ _ _) | exact Calls.regrown_of (mul_c _ _ _ _ G11.out) | exact Calls.regrown_of (sub_c _ _ _ _ G12.out)))
    refine wpQuiet_nil ?_
    clear g16 g17 g18
    intro W19 hw
    replace H := H.regrown hw
    clear hw W15
    have cz := H.at_ 2 rfl
    have fz := H.fz 2 rfl
    have hB := (H.set 2 r rfl).bel
    clear H
    go_wp2
    exact bodyPost_ret (v := fl r) (by simp [results, Try.results44, go_sem, cz]) rfl ⟨rfl, hB⟩
end Go.Proofs.Ytanaamlkiackbaa

/- The walk of xyz_to_lab. -/
import Derived.Test.YtpjbhbbhkhfiaaaOkw
set_option linter.unusedSimpArgs false
set_option linter.unusedVariables false
namespace Go.Proofs.Ytpjbhbbhkhfiaaa
open Go.RowKit Go.Sort
open Flt Ieee
def LinP (x c : Nat) : Prop := ∃ p q, floatBits .mul .f64 x 4651156694067819558 = some p ∧ floatBits .add .f64 p 4625196817309499392 = some q ∧ floatBits .quo .f64 q 4637863191261478912 = some c
def FzP (x c : Nat) : Prop := (gtB x 4576259018578689238 = true ∧ CubP x c) ∨ (gtB x 4576259018578689238 = false ∧ LinP x c)
def LabP (x y z r0 r1 r2 : Nat) : Prop := ∃ x1 z1 c0 c1 c2 u0 u1 u2, floatBits .quo .f64 x 4606860822843362778 = some x1 ∧ floatBits .quo .f64 z 4605607101106091996 = some z1 ∧ FzP x1 c0 ∧ FzP y c1 ∧ FzP z1 c2 ∧ floatBits .mul .f64 c1 4637863191261478912 = some u0 ∧ floatBits .sub .f64 u0 4625196817309499392 = some r0 ∧
  floatBits .sub .f64 c0 c1 = some u1 ∧ floatBits .mul .f64 u1 4647503709213818880 = some r1 ∧ floatBits .sub .f64 c1 c2 = some u2 ∧ floatBits .mul .f64 u2 4641240890982006784 = some r2
set_option maxRecDepth 100000 in
set_option maxHeartbeats 4000000 in
theorem lab_0 (x y z x1 z1 c0 c1 c2 u0 u1 u2 r0 r1 r2 p0 q0 p1 q1 p2 q2 : Nat) (w : World) (F1 : floatBits .quo .f64 x 4606860822843362778 = some x1) (F2 : floatBits .quo .f64 z 4605607101106091996 = some z1) (b0 : gtB x1 4576259018578689238 = false) (P0 : floatBits .mul .f64 x1 4651156694067819558 = some p0) (Q0 : floatBits .add .f64 p0 4625196817309499392 = some q0) (S0 : floatBits .quo .f64 q0 4637863191261478912 = some c0) (b1 : gtB y 4576259018578689238 = false) (P1 : floatBits .mul .f64 y 4651156694067819558 = some p1) (Q1 : floatBits .add .f64 p1 4625196817309499392 = some q1) (S1 : floatBits .quo .f64 q1 4637863191261478912 = some c1) (b2 : gtB z1 4576259018578689238 = false) (P2 : floatBits .mul .f64 z1 4651156694067819558 = some p2) (Q2 : floatBits .add .f64 p2 4625196817309499392 = some q2) (S2 : floatBits .quo .f64 q2 4637863191261478912 = some c2) (F3 : floatBits .mul .f64 c1 4637863191261478912 = some u0) (F4 : floatBits .sub .f64 u0 4625196817309499392 = some r0) (F5 : floatBits .sub .f64 c0 c1 = some u1) (F6 : floatBits .mul .f64 u1 4647503709213818880 = some r1) (F7 : floatBits .sub .f64 c1 c2 = some u2) (F8 : floatBits .mul .f64 u2 4641240890982006784 = some r2) : Calls Try.prog 16 #[fl x, fl y, fl z] w fun e w' => e = .returned (.tuple #[fl r0, fl r1, fl r2]) ∧ Below w.heap.size w w' := by
  have st := st_fl
  have F1' := Lib.hid F1
  have F2' := Lib.hid F2
  have F3' := Lib.hid F3
  have F4' := Lib.hid F4
  have F5' := Lib.hid F5
  have F6' := Lib.hid F6
  have F7' := Lib.hid F7
  have F8' := Lib.hid F8
  have P0' := Lib.hid P0
  have Q0' := Lib.hid Q0
  have S0' := Lib.hid S0
  have P1' := Lib.hid P1
  have Q1' := Lib.hid Q1
  have S1' := Lib.hid S1
  have P2' := Lib.hid P2
  have Q2' := Lib.hid Q2
  have S2' := Lib.hid S2
  clear F1 F2 F3 F4 F5 F6 F7 F8 P0 Q0 S0 P1 Q1 S1 P2 Q2 S2
  have e0' : (FloatKind.f64.format.order x1 4576259018578689238 == some .gt) = false := b0
  have e1' : (FloatKind.f64.format.order y 4576259018578689238 == some .gt) = false := b1
  have e2' : (FloatKind.f64.format.order z1 4576259018578689238 == some .gt) = false := b2
  clear b0 b1 b2
  go_enter Try.func16, Try.ntmps16
  go_upto_region 1 with (fail)
  refine wp_gen fun W0 hW => ?_
  have H : CL w [(w.heap.size + 1 + 1 + 1 + 1 + 1, 0), (w.heap.size + 1 + 1 + 1 + 1, 0), (w.heap.size + 1 + 1 + 1, 0), (w.heap.size + 1 + 1, z), (w.heap.size + 1, y), (w.heap.size, x)] W0 := by rw [hW]; have := ((((((CL.start w).new x 30).new y 30).new z 30).new 0 30).new 0 30).new 0 30; simpa using this
  clear hW
  have g1 := fun d os => cell_regrown (H.at_ 5 rfl) d os
  refine seq_tail 2 (fun Q hQ => ?_)
  simp only [List.take_succ_cons, List.take_zero, List.drop_succ_cons, List.drop_zero]
  repeat (quiet_step (first | exact Calls.regrown_of (divK_c _ _ _ _ F1'.out)))
  refine wpQuiet_nil ?_
  clear g1
  intro W2 hw
  replace H := H.regrown hw
  clear hw W0
  have cz := H.at_ 5 rfl
  have fz := H.fz 5 rfl
  go_upto_region 2 with (fail)
  clear cz fz
  refine wp_gen fun W3 hW => ?_
  replace H : CL w [(w.heap.size + 1 + 1 + 1 + 1 + 1, 0), (w.heap.size + 1 + 1 + 1 + 1, 0), (w.heap.size + 1 + 1 + 1, 0), (w.heap.size + 1 + 1, z), (w.heap.size + 1, y), (w.heap.size, x1)] W3 := by rw [hW]; exact H.set 5 x1 rfl
  clear hW W2
  have g4 := fun d os => cell_regrown (H.at_ 3 rfl) d os
  refine seq_tail 2 (fun Q hQ => ?_)
  simp only [List.take_succ_cons, List.take_zero, List.drop_succ_cons, List.drop_zero]
  repeat (quiet_step (first | exact Calls.regrown_of (divK_c _ _ _ _ F2'.out)))
  refine wpQuiet_nil ?_
  clear g4
  intro W5 hw
  replace H := H.regrown hw
  clear hw W3
  have cz := H.at_ 3 rfl
  have fz := H.fz 3 rfl
  go_upto_region 4 with (fail)
  clear cz fz
  refine wp_gen fun W6 hW => ?_
  replace H := (((H.set 3 z1 rfl).new 0 30).new 0 30).new 0 30
  have hz : (W5.setCell ⟨w.heap.size + 1 + 1, 0, none⟩ (.float .f64 z1)).heap.size = W5.heap.size := by simp [go_sem]
  skip
  have H2 : CL w [(W5.heap.size + 1 + 1, 0), (W5.heap.size + 1, 0), (W5.heap.size, 0), (w.heap.size + 1 + 1 + 1 + 1 + 1, 0), (w.heap.size + 1 + 1 + 1 + 1, 0), (w.heap.size + 1 + 1 + 1, 0), (w.heap.size + 1 + 1, z1), (w.heap.size + 1, y), (w.heap.size, x1)] W6 := by rw [hW]; simpa [go_sem] using H
  clear H hz hW
  generalize W5.heap.size = q9 at H2
  have H := H2
  clear H2 W5
  have g7 := fun d os => cell_regrown (H.at_ 8 rfl) d os
  refine seq_tail 2 (fun Q hQ => ?_)
  simp only [List.take_succ_cons, List.take_zero, List.drop_succ_cons, List.drop_zero]
  repeat (quiet_step (first | exact Calls.regrown_of (valB_c _ _)))
  refine wpQuiet_nil ?_
  clear g7
  intro W8 hw
  replace H := H.regrown hw
  clear hw W6
  go_upto_region 6 with (fail)
  have g9 := fun d os => cell_regrown (H.at_ 8 rfl) d os
  refine seq_tail 4 (fun Q hQ => ?_)
  simp only [List.take_succ_cons, List.take_zero, List.drop_succ_cons, List.drop_zero]
  repeat (quiet_step (first | exact Calls.regrown_of (mulK_c _ _ _ _ P0'.out) | exact Calls.regrown_of (addK_c _ _ _ _ Q0'.out) | exact Calls.regrown_of (divK_c _ _ _ _ S0'.out)))
  refine wpQuiet_nil ?_
  clear g9
  intro W10 hw
  replace H := H.regrown hw
  clear hw W8
  have cz := H.at_ 2 rfl
  have fz := H.fz 2 rfl
  go_upto_region 7 with (fail)
  clear cz fz
  refine wp_gen fun W11 hW => ?_
  replace H : CL w [(q9 + 1 + 1, 0), (q9 + 1, 0), (q9, c0), (w.heap.size + 1 + 1 + 1 + 1 + 1, 0), (w.heap.size + 1 + 1 + 1 + 1, 0), (w.heap.size + 1 + 1 + 1, 0), (w.heap.size + 1 + 1, z1), (w.heap.size + 1, y), (w.heap.size, x1)] W11 := by rw [hW]; exact H.set 2 c0 rfl
  clear hW W10
  have g12 := fun d os => cell_regrown (H.at_ 7 rfl) d os
  refine seq_tail 2 (fun Q hQ => ?_)
  simp only [List.take_succ_cons, List.take_zero, List.drop_succ_cons, List.drop_zero]
  repeat (quiet_step (first | exact Calls.regrown_of (valB_c _ _)))
  refine wpQuiet_nil ?_
  clear g12
  intro W13 hw
  replace H := H.regrown hw
  clear hw W11
  go_upto_region 9 with (fail)
  have g14 := fun d os => cell_regrown (H.at_ 7 rfl) d os
  refine seq_tail 4 (fun Q hQ => ?_)
  simp only [List.take_succ_cons, List.take_zero, List.drop_succ_cons, List.drop_zero]
  repeat (quiet_step (first | exact Calls.regrown_of (mulK_c _ _ _ _ P1'.out) | exact Calls.regrown_of (addK_c _ _ _ _ Q1'.out) | exact Calls.regrown_of (divK_c _ _ _ _ S1'.out)))
  refine wpQuiet_nil ?_
  clear g14
  intro W15 hw
  replace H := H.regrown hw
  clear hw W13
  have cz := H.at_ 1 rfl
  have fz := H.fz 1 rfl
  go_upto_region 10 with (fail)
  clear cz fz
  refine wp_gen fun W16 hW => ?_
  replace H : CL w [(q9 + 1 + 1, 0), (q9 + 1, c1), (q9, c0), (w.heap.size + 1 + 1 + 1 + 1 + 1, 0), (w.heap.size + 1 + 1 + 1 + 1, 0), (w.heap.size + 1 + 1 + 1, 0), (w.heap.size + 1 + 1, z1), (w.heap.size + 1, y), (w.heap.size, x1)] W16 := by rw [hW]; exact H.set 1 c1 rfl
  clear hW W15
  have g17 := fun d os => cell_regrown (H.at_ 6 rfl) d os
  refine seq_tail 2 (fun Q hQ => ?_)
  simp only [List.take_succ_cons, List.take_zero, List.drop_succ_cons, List.drop_zero]
  repeat (quiet_step (first | exact Calls.regrown_of (valB_c _ _)))
  refine wpQuiet_nil ?_
  clear g17
  intro W18 hw
  replace H := H.regrown hw
  clear hw W16
  go_upto_region 12 with (fail)
  have g19 := fun d os => cell_regrown (H.at_ 6 rfl) d os
  refine seq_tail 4 (fun Q hQ => ?_)
  simp only [List.take_succ_cons, List.take_zero, List.drop_succ_cons, List.drop_zero]
  repeat (quiet_step (first | exact Calls.regrown_of (mulK_c _ _ _ _ P2'.out) | exact Calls.regrown_of (addK_c _ _ _ _ Q2'.out) | exact Calls.regrown_of (divK_c _ _ _ _ S2'.out)))
  refine wpQuiet_nil ?_
  clear g19
  intro W20 hw
  replace H := H.regrown hw
  clear hw W18
  have cz := H.at_ 0 rfl
  have fz := H.fz 0 rfl
  go_upto_region 13 with (fail)
  clear cz fz
  refine wp_gen fun W21 hW => ?_
  replace H : CL w [(q9 + 1 + 1, c2), (q9 + 1, c1), (q9, c0), (w.heap.size + 1 + 1 + 1 + 1 + 1, 0), (w.heap.size + 1 + 1 + 1 + 1, 0), (w.heap.size + 1 + 1 + 1, 0), (w.heap.size + 1 + 1, z1), (w.heap.size + 1, y), (w.heap.size, x1)] W21 := by rw [hW]; exact H.set 0 c2 rfl
  clear hW W20
  have g22 := fun d os => cell_regrown (H.at_ 2 rfl) d os
  have g23 := fun d os => cell_regrown (H.at_ 1 rfl) d os
  have g24 := fun d os => cell_regrown (H.at_ 0 rfl) d os
  refine drawn_tail 11 (by kernel_rfl) (by kernel_rfl) (by kernel_rfl) (fun Q hQ => ?_)
  simp only [List.take_succ_cons, List.take_zero, List.drop_succ_cons, List.drop_zero]
  repeat (quiet_step (first | exact Calls.regrown_of (mulK_c _ _ _ _ F3'.out) | exact Calls.regrown_of (subK_c _ _ _ _ F4'.out) | exact Calls.regrown_of (sub_c _ _ _ _ F5'.out) | exact Calls.regrown_of (mulK_c _ _ _ _ F6'.out) | exact Calls.regrown_of (sub_c _ _ _ _ F7'.out) | exact Calls.regrown_of (mulK_c _ _ _ _ F8'.out)))
  refine wpQuiet_nil ?_
  clear g22 g23 g24
  intro W25 hw
  replace H := H.regrown hw
  clear hw W21
  have c6 := H.at_ 5 rfl; have c7 := H.at_ 4 rfl; have c8 := H.at_ 3 rfl; have f6 := H.fz 5 rfl; have f7 := H.fz 4 rfl; have f8 := H.fz 3 rfl
  have hB := (((H.set 5 r0 rfl).set 4 r1 rfl).set 3 r2 rfl).bel
  clear H
  go_wp2
  exact bodyPost_ret (v := .tuple #[fl r0, fl r1, fl r2]) (by simp [results, Try.results16, go_sem, c6, c7, c8]) rfl ⟨rfl, hB⟩
set_option maxRecDepth 100000 in
set_option maxHeartbeats 4000000 in
theorem lab_1 (x y z x1 z1 c0 c1 c2 u0 u1 u2 r0 r1 r2 p1 q1 p2 q2 : Nat) (w : World) (F1 : floatBits .quo .f64 x 4606860822843362778 = some x1) (F2 : floatBits .quo .f64 z 4605607101106091996 = some z1) (b0 : gtB x1 4576259018578689238 = true) (K0 : CubP x1 c0) (b1 : gtB y 4576259018578689238 = false) (P1 : floatBits .mul .f64 y 4651156694067819558 = some p1) (Q1 : floatBits .add .f64 p1 4625196817309499392 = some q1) (S1 : floatBits .quo .f64 q1 4637863191261478912 = some c1) (b2 : gtB z1 4576259018578689238 = false) (P2 : floatBits .mul .f64 z1 4651156694067819558 = some p2) (Q2 : floatBits .add .f64 p2 4625196817309499392 = some q2) (S2 : floatBits .quo .f64 q2 4637863191261478912 = some c2) (F3 : floatBits .mul .f64 c1 4637863191261478912 = some u0) (F4 : floatBits .sub .f64 u0 4625196817309499392 = some r0) (F5 : floatBits .sub .f64 c0 c1 = some u1) (F6 : floatBits .mul .f64 u1 4647503709213818880 = some r1) (F7 : floatBits .sub .f64 c1 c2 = some u2) (F8 : floatBits .mul .f64 u2 4641240890982006784 = some r2) : Calls Try.prog 16 #[fl x, fl y, fl z] w fun e w' => e = .returned (.tuple #[fl r0, fl r1, fl r2]) ∧ Below w.heap.size w w' := by
  have st := st_fl
  have F1' := Lib.hid F1
  have F2' := Lib.hid F2
  have F3' := Lib.hid F3
  have F4' := Lib.hid F4
  have F5' := Lib.hid F5
  have F6' := Lib.hid F6
  have F7' := Lib.hid F7
  have F8' := Lib.hid F8
  have K0' := Lib.hid K0
  have P1' := Lib.hid P1
  have Q1' := Lib.hid Q1
  have S1' := Lib.hid S1
  have P2' := Lib.hid P2
  have Q2' := Lib.hid Q2
  have S2' := Lib.hid S2
  clear F1 F2 F3 F4 F5 F6 F7 F8 K0 P1 Q1 S1 P2 Q2 S2
  have e0' : (FloatKind.f64.format.order x1 4576259018578689238 == some .gt) = true := b0
  have e1' : (FloatKind.f64.format.order y 4576259018578689238 == some .gt) = false := b1
  have e2' : (FloatKind.f64.format.order z1 4576259018578689238 == some .gt) = false := b2
  clear b0 b1 b2
  go_enter Try.func16, Try.ntmps16
  go_upto_region 1 with (fail)
  refine wp_gen fun W0 hW => ?_
  have H : CL w [(w.heap.size + 1 + 1 + 1 + 1 + 1, 0), (w.heap.size + 1 + 1 + 1 + 1, 0), (w.heap.size + 1 + 1 + 1, 0), (w.heap.size + 1 + 1, z), (w.heap.size + 1, y), (w.heap.size, x)] W0 := by rw [hW]; have := ((((((CL.start w).new x 30).new y 30).new z 30).new 0 30).new 0 30).new 0 30; simpa using this
  clear hW
  have g1 := fun d os => cell_regrown (H.at_ 5 rfl) d os
  refine seq_tail 2 (fun Q hQ => ?_)
  simp only [List.take_succ_cons, List.take_zero, List.drop_succ_cons, List.drop_zero]
  repeat (quiet_step (first | exact Calls.regrown_of (divK_c _ _ _ _ F1'.out)))
  refine wpQuiet_nil ?_
  clear g1
  intro W2 hw
  replace H := H.regrown hw
  clear hw W0
  have cz := H.at_ 5 rfl
  have fz := H.fz 5 rfl
  go_upto_region 2 with (fail)
  clear cz fz
  refine wp_gen fun W3 hW => ?_
  replace H : CL w [(w.heap.size + 1 + 1 + 1 + 1 + 1, 0), (w.heap.size + 1 + 1 + 1 + 1, 0), (w.heap.size + 1 + 1 + 1, 0), (w.heap.size + 1 + 1, z), (w.heap.size + 1, y), (w.heap.size, x1)] W3 := by rw [hW]; exact H.set 5 x1 rfl
  clear hW W2
  have g4 := fun d os => cell_regrown (H.at_ 3 rfl) d os
  refine seq_tail 2 (fun Q hQ => ?_)
  simp only [List.take_succ_cons, List.take_zero, List.drop_succ_cons, List.drop_zero]
  repeat (quiet_step (first | exact Calls.regrown_of (divK_c _ _ _ _ F2'.out)))
  refine wpQuiet_nil ?_
  clear g4
  intro W5 hw
  replace H := H.regrown hw
  clear hw W3
  have cz := H.at_ 3 rfl
  have fz := H.fz 3 rfl
  go_upto_region 4 with (fail)
  clear cz fz
  refine wp_gen fun W6 hW => ?_
  replace H := (((H.set 3 z1 rfl).new 0 30).new 0 30).new 0 30
  have hz : (W5.setCell ⟨w.heap.size + 1 + 1, 0, none⟩ (.float .f64 z1)).heap.size = W5.heap.size := by simp [go_sem]
  skip
  have H2 : CL w [(W5.heap.size + 1 + 1, 0), (W5.heap.size + 1, 0), (W5.heap.size, 0), (w.heap.size + 1 + 1 + 1 + 1 + 1, 0), (w.heap.size + 1 + 1 + 1 + 1, 0), (w.heap.size + 1 + 1 + 1, 0), (w.heap.size + 1 + 1, z1), (w.heap.size + 1, y), (w.heap.size, x1)] W6 := by rw [hW]; simpa [go_sem] using H
  clear H hz hW
  generalize W5.heap.size = q9 at H2
  have H := H2
  clear H2 W5
  have g7 := fun d os => cell_regrown (H.at_ 8 rfl) d os
  refine seq_tail 2 (fun Q hQ => ?_)
  simp only [List.take_succ_cons, List.take_zero, List.drop_succ_cons, List.drop_zero]
  repeat (quiet_step (first | exact Calls.regrown_of (valB_c _ _)))
  refine wpQuiet_nil ?_
  clear g7
  intro W8 hw
  replace H := H.regrown hw
  clear hw W6
  go_upto_region 5 with (fail)
  have g9 := fun d os => cell_regrown (H.at_ 8 rfl) d os
  refine seq_tail 2 (fun Q hQ => ?_)
  simp only [List.take_succ_cons, List.take_zero, List.drop_succ_cons, List.drop_zero]
  repeat (quiet_step (first | exact Calls.regrown_of (cbrt_c _ _ _ K0'.out)))
  refine wpQuiet_nil ?_
  clear g9
  intro W10 hw
  replace H := H.regrown hw
  clear hw W8
  have cz := H.at_ 2 rfl
  have fz := H.fz 2 rfl
  go_upto_region 7 with (fail)
  clear cz fz
  refine wp_gen fun W11 hW => ?_
  replace H : CL w [(q9 + 1 + 1, 0), (q9 + 1, 0), (q9, c0), (w.heap.size + 1 + 1 + 1 + 1 + 1, 0), (w.heap.size + 1 + 1 + 1 + 1, 0), (w.heap.size + 1 + 1 + 1, 0), (w.heap.size + 1 + 1, z1), (w.heap.size + 1, y), (w.heap.size, x1)] W11 := by rw [hW]; exact H.set 2 c0 rfl
  clear hW W10
  have g12 := fun d os => cell_regrown (H.at_ 7 rfl) d os
  refine seq_tail 2 (fun Q hQ => ?_)
  simp only [List.take_succ_cons, List.take_zero, List.drop_succ_cons, List.drop_zero]
  repeat (quiet_step (first | exact Calls.regrown_of (valB_c _ _)))
  refine wpQuiet_nil ?_
  clear g12
  intro W13 hw
  replace H := H.regrown hw
  clear hw W11
  go_upto_region 9 with (fail)
  have g14 := fun d os => cell_regrown (H.at_ 7 rfl) d os
  refine seq_tail 4 (fun Q hQ => ?_)
  simp only [List.take_succ_cons, List.take_zero, List.drop_succ_cons, List.drop_zero]
  repeat (quiet_step (first | exact Calls.regrown_of (mulK_c _ _ _ _ P1'.out) | exact Calls.regrown_of (addK_c _ _ _ _ Q1'.out) | exact Calls.regrown_of (divK_c _ _ _ _ S1'.out)))
  refine wpQuiet_nil ?_
  clear g14
  intro W15 hw
  replace H := H.regrown hw
  clear hw W13
  have cz := H.at_ 1 rfl
  have fz := H.fz 1 rfl
  go_upto_region 10 with (fail)
  clear cz fz
  refine wp_gen fun W16 hW => ?_
  replace H : CL w [(q9 + 1 + 1, 0), (q9 + 1, c1), (q9, c0), (w.heap.size + 1 + 1 + 1 + 1 + 1, 0), (w.heap.size + 1 + 1 + 1 + 1, 0), (w.heap.size + 1 + 1 + 1, 0), (w.heap.size + 1 + 1, z1), (w.heap.size + 1, y), (w.heap.size, x1)] W16 := by rw [hW]; exact H.set 1 c1 rfl
  clear hW W15
  have g17 := fun d os => cell_regrown (H.at_ 6 rfl) d os
  refine seq_tail 2 (fun Q hQ => ?_)
  simp only [List.take_succ_cons, List.take_zero, List.drop_succ_cons, List.drop_zero]
  repeat (quiet_step (first | exact Calls.regrown_of (valB_c _ _)))
  refine wpQuiet_nil ?_
  clear g17
  intro W18 hw
  replace H := H.regrown hw
  clear hw W16
  go_upto_region 12 with (fail)
  have g19 := fun d os => cell_regrown (H.at_ 6 rfl) d os
  refine seq_tail 4 (fun Q hQ => ?_)
  simp only [List.take_succ_cons, List.take_zero, List.drop_succ_cons, List.drop_zero]
  repeat (quiet_step (first | exact Calls.regrown_of (mulK_c _ _ _ _ P2'.out) | exact Calls.regrown_of (addK_c _ _ _ _ Q2'.out) | exact Calls.regrown_of (divK_c _ _ _ _ S2'.out)))
  refine wpQuiet_nil ?_
  clear g19
  intro W20 hw
  replace H := H.regrown hw
  clear hw W18
  have cz := H.at_ 0 rfl
  have fz := H.fz 0 rfl
  go_upto_region 13 with (fail)
  clear cz fz
  refine wp_gen fun W21 hW => ?_
  replace H : CL w [(q9 + 1 + 1, c2), (q9 + 1, c1), (q9, c0), (w.heap.size + 1 + 1 + 1 + 1 + 1, 0), (w.heap.size + 1 + 1 + 1 + 1, 0), (w.heap.size + 1 + 1 + 1, 0), (w.heap.size + 1 + 1, z1), (w.heap.size + 1, y), (w.heap.size, x1)] W21 := by rw [hW]; exact H.set 0 c2 rfl
  clear hW W20
  have g22 := fun d os => cell_regrown (H.at_ 2 rfl) d os
  have g23 := fun d os => cell_regrown (H.at_ 1 rfl) d os
  have g24 := fun d os => cell_regrown (H.at_ 0 rfl) d os
  refine drawn_tail 11 (by kernel_rfl) (by kernel_rfl) (by kernel_rfl) (fun Q hQ => ?_)
  simp only [List.take_succ_cons, List.take_zero, List.drop_succ_cons, List.drop_zero]
  repeat (quiet_step (first | exact Calls.regrown_of (mulK_c _ _ _ _ F3'.out) | exact Calls.regrown_of (subK_c _ _ _ _ F4'.out) | exact Calls.regrown_of (sub_c _ _ _ _ F5'.out) | exact Calls.regrown_of (mulK_c _ _ _ _ F6'.out) | exact Calls.regrown_of (sub_c _ _ _ _ F7'.out) | exact Calls.regrown_of (mulK_c _ _ _ _ F8'.out)))
  refine wpQuiet_nil ?_
  clear g22 g23 g24
  intro W25 hw
  replace H := H.regrown hw
  clear hw W21
  have c6 := H.at_ 5 rfl; have c7 := H.at_ 4 rfl; have c8 := H.at_ 3 rfl; have f6 := H.fz 5 rfl; have f7 := H.fz 4 rfl; have f8 := H.fz 3 rfl
  have hB := (((H.set 5 r0 rfl).set 4 r1 rfl).set 3 r2 rfl).bel
  clear H
  go_wp2
  exact bodyPost_ret (v := .tuple #[fl r0, fl r1, fl r2]) (by simp [results, Try.results16, go_sem, c6, c7, c8]) rfl ⟨rfl, hB⟩
set_option maxRecDepth 100000 in
set_option maxHeartbeats 4000000 in
theorem lab_2 (x y z x1 z1 c0 c1 c2 u0 u1 u2 r0 r1 r2 p0 q0 p2 q2 : Nat) (w : World) (F1 : floatBits .quo .f64 x 4606860822843362778 = some x1) (F2 : floatBits .quo .f64 z 4605607101106091996 = some z1) (b0 : gtB x1 4576259018578689238 = false) (P0 : floatBits .mul .f64 x1 4651156694067819558 = some p0) (Q0 : floatBits .add .f64 p0 4625196817309499392 = some q0) (S0 : floatBits .quo .f64 q0 4637863191261478912 = some c0) (b1 : gtB y 4576259018578689238 = true) (K1 : CubP y c1) (b2 : gtB z1 4576259018578689238 = false) (P2 : floatBits .mul .f64 z1 4651156694067819558 = some p2) (Q2 : floatBits .add .f64 p2 4625196817309499392 = some q2) (S2 : floatBits .quo .f64 q2 4637863191261478912 = some c2) (F3 : floatBits .mul .f64 c1 4637863191261478912 = some u0) (F4 : floatBits .sub .f64 u0 4625196817309499392 = some r0) (F5 : floatBits .sub .f64 c0 c1 = some u1) (F6 : floatBits .mul .f64 u1 4647503709213818880 = some r1) (F7 : floatBits .sub .f64 c1 c2 = some u2) (F8 : floatBits .mul .f64 u2 4641240890982006784 = some r2) : Calls Try.prog 16 #[fl x, fl y, fl z] w fun e w' => e = .returned (.tuple #[fl r0, fl r1, fl r2]) ∧ Below w.heap.size w w' := by
  have st := st_fl
  have F1' := Lib.hid F1
  have F2' := Lib.hid F2
  have F3' := Lib.hid F3
  have F4' := Lib.hid F4
  have F5' := Lib.hid F5
  have F6' := Lib.hid F6
  have F7' := Lib.hid F7
  have F8' := Lib.hid F8
  have P0' := Lib.hid P0
  have Q0' := Lib.hid Q0
  have S0' := Lib.hid S0
  have K1' := Lib.hid K1
  have P2' := Lib.hid P2
  have Q2' := Lib.hid Q2
  have S2' := Lib.hid S2
  clear F1 F2 F3 F4 F5 F6 F7 F8 P0 Q0 S0 K1 P2 Q2 S2
  have e0' : (FloatKind.f64.format.order x1 4576259018578689238 == some .gt) = false := b0
  have e1' : (FloatKind.f64.format.order y 4576259018578689238 == some .gt) = true := b1
  have e2' : (FloatKind.f64.format.order z1 4576259018578689238 == some .gt) = false := b2
  clear b0 b1 b2
  go_enter Try.func16, Try.ntmps16
  go_upto_region 1 with (fail)
  refine wp_gen fun W0 hW => ?_
  have H : CL w [(w.heap.size + 1 + 1 + 1 + 1 + 1, 0), (w.heap.size + 1 + 1 + 1 + 1, 0), (w.heap.size + 1 + 1 + 1, 0), (w.heap.size + 1 + 1, z), (w.heap.size + 1, y), (w.heap.size, x)] W0 := by rw [hW]; have := ((((((CL.start w).new x 30).new y 30).new z 30).new 0 30).new 0 30).new 0 30; simpa using this
  clear hW
  have g1 := fun d os => cell_regrown (H.at_ 5 rfl) d os
  refine seq_tail 2 (fun Q hQ => ?_)
  simp only [List.take_succ_cons, List.take_zero, List.drop_succ_cons, List.drop_zero]
  repeat (quiet_step (first | exact Calls.regrown_of (divK_c _ _ _ _ F1'.out)))
  refine wpQuiet_nil ?_
  clear g1
  intro W2 hw
  replace H := H.regrown hw
  clear hw W0
  have cz := H.at_ 5 rfl
  have fz := H.fz 5 rfl
  go_upto_region 2 with (fail)
  clear cz fz
  refine wp_gen fun W3 hW => ?_
  replace H : CL w [(w.heap.size + 1 + 1 + 1 + 1 + 1, 0), (w.heap.size + 1 + 1 + 1 + 1, 0), (w.heap.size + 1 + 1 + 1, 0), (w.heap.size + 1 + 1, z), (w.heap.size + 1, y), (w.heap.size, x1)] W3 := by rw [hW]; exact H.set 5 x1 rfl
  clear hW W2
  have g4 := fun d os => cell_regrown (H.at_ 3 rfl) d os
  refine seq_tail 2 (fun Q hQ => ?_)
  simp only [List.take_succ_cons, List.take_zero, List.drop_succ_cons, List.drop_zero]
  repeat (quiet_step (first | exact Calls.regrown_of (divK_c _ _ _ _ F2'.out)))
  refine wpQuiet_nil ?_
  clear g4
  intro W5 hw
  replace H := H.regrown hw
  clear hw W3
  have cz := H.at_ 3 rfl
  have fz := H.fz 3 rfl
  go_upto_region 4 with (fail)
  clear cz fz
  refine wp_gen fun W6 hW => ?_
  replace H := (((H.set 3 z1 rfl).new 0 30).new 0 30).new 0 30
  have hz : (W5.setCell ⟨w.heap.size + 1 + 1, 0, none⟩ (.float .f64 z1)).heap.size = W5.heap.size := by simp [go_sem]
  skip
  have H2 : CL w [(W5.heap.size + 1 + 1, 0), (W5.heap.size + 1, 0), (W5.heap.size, 0), (w.heap.size + 1 + 1 + 1 + 1 + 1, 0), (w.heap.size + 1 + 1 + 1 + 1, 0), (w.heap.size + 1 + 1 + 1, 0), (w.heap.size + 1 + 1, z1), (w.heap.size + 1, y), (w.heap.size, x1)] W6 := by rw [hW]; simpa [go_sem] using H
  clear H hz hW
  generalize W5.heap.size = q9 at H2
  have H := H2
  clear H2 W5
  have g7 := fun d os => cell_regrown (H.at_ 8 rfl) d os
  refine seq_tail 2 (fun Q hQ => ?_)
  simp only [List.take_succ_cons, List.take_zero, List.drop_succ_cons, List.drop_zero]
  repeat (quiet_step (first | exact Calls.regrown_of (valB_c _ _)))
  refine wpQuiet_nil ?_
  clear g7
  intro W8 hw
  replace H := H.regrown hw
  clear hw W6
  go_upto_region 6 with (fail)
  have g9 := fun d os => cell_regrown (H.at_ 8 rfl) d os
  refine seq_tail 4 (fun Q hQ => ?_)
  simp only [List.take_succ_cons, List.take_zero, List.drop_succ_cons, List.drop_zero]
  repeat (quiet_step (first | exact Calls.regrown_of (mulK_c _ _ _ _ P0'.out) | exact Calls.regrown_of (addK_c _ _ _ _ Q0'.out) | exact Calls.regrown_of (divK_c _ _ _ _ S0'.out)))
  refine wpQuiet_nil ?_
  clear g9
  intro W10 hw
  replace H := H.regrown hw
  clear hw W8
  have cz := H.at_ 2 rfl
  have fz := H.fz 2 rfl
  go_upto_region 7 with (fail)
  clear cz fz
  refine wp_gen fun W11 hW => ?_
  replace H : CL w [(q9 + 1 + 1, 0), (q9 + 1, 0), (q9, c0), (w.heap.size + 1 + 1 + 1 + 1 + 1, 0), (w.heap.size + 1 + 1 + 1 + 1, 0), (w.heap.size + 1 + 1 + 1, 0), (w.heap.size + 1 + 1, z1), (w.heap.size + 1, y), (w.heap.size, x1)] W11 := by rw [hW]; exact H.set 2 c0 rfl
  clear hW W10
  have g12 := fun d os => cell_regrown (H.at_ 7 rfl) d os
  refine seq_tail 2 (fun Q hQ => ?_)
  simp only [List.take_succ_cons, List.take_zero, List.drop_succ_cons, List.drop_zero]
  repeat (quiet_step (first | exact Calls.regrown_of (valB_c _ _)))
  refine wpQuiet_nil ?_
  clear g12
  intro W13 hw
  replace H := H.regrown hw
  clear hw W11
  go_upto_region 8 with (fail)
  have g14 := fun d os => cell_regrown (H.at_ 7 rfl) d os
  refine seq_tail 2 (fun Q hQ => ?_)
  simp only [List.take_succ_cons, List.take_zero, List.drop_succ_cons, List.drop_zero]
  repeat (quiet_step (first | exact Calls.regrown_of (cbrt_c _ _ _ K1'.out)))
  refine wpQuiet_nil ?_
  clear g14
  intro W15 hw
  replace H := H.regrown hw
  clear hw W13
  have cz := H.at_ 1 rfl
  have fz := H.fz 1 rfl
  go_upto_region 10 with (fail)
  clear cz fz
  refine wp_gen fun W16 hW => ?_
  replace H : CL w [(q9 + 1 + 1, 0), (q9 + 1, c1), (q9, c0), (w.heap.size + 1 + 1 + 1 + 1 + 1, 0), (w.heap.size + 1 + 1 + 1 + 1, 0), (w.heap.size + 1 + 1 + 1, 0), (w.heap.size + 1 + 1, z1), (w.heap.size + 1, y), (w.heap.size, x1)] W16 := by rw [hW]; exact H.set 1 c1 rfl
  clear hW W15
  have g17 := fun d os => cell_regrown (H.at_ 6 rfl) d os
  refine seq_tail 2 (fun Q hQ => ?_)
  simp only [List.take_succ_cons, List.take_zero, List.drop_succ_cons, List.drop_zero]
  repeat (quiet_step (first | exact Calls.regrown_of (valB_c _ _)))
  refine wpQuiet_nil ?_
  clear g17
  intro W18 hw
  replace H := H.regrown hw
  clear hw W16
  go_upto_region 12 with (fail)
  have g19 := fun d os => cell_regrown (H.at_ 6 rfl) d os
  refine seq_tail 4 (fun Q hQ => ?_)
  simp only [List.take_succ_cons, List.take_zero, List.drop_succ_cons, List.drop_zero]
  repeat (quiet_step (first | exact Calls.regrown_of (mulK_c _ _ _ _ P2'.out) | exact Calls.regrown_of (addK_c _ _ _ _ Q2'.out) | exact Calls.regrown_of (divK_c _ _ _ _ S2'.out)))
  refine wpQuiet_nil ?_
  clear g19
  intro W20 hw
  replace H := H.regrown hw
  clear hw W18
  have cz := H.at_ 0 rfl
  have fz := H.fz 0 rfl
  go_upto_region 13 with (fail)
  clear cz fz
  refine wp_gen fun W21 hW => ?_
  replace H : CL w [(q9 + 1 + 1, c2), (q9 + 1, c1), (q9, c0), (w.heap.size + 1 + 1 + 1 + 1 + 1, 0), (w.heap.size + 1 + 1 + 1 + 1, 0), (w.heap.size + 1 + 1 + 1, 0), (w.heap.size + 1 + 1, z1), (w.heap.size + 1, y), (w.heap.size, x1)] W21 := by rw [hW]; exact H.set 0 c2 rfl
  clear hW W20
  have g22 := fun d os => cell_regrown (H.at_ 2 rfl) d os
  have g23 := fun d os => cell_regrown (H.at_ 1 rfl) d os
  have g24 := fun d os => cell_regrown (H.at_ 0 rfl) d os
  refine drawn_tail 11 (by kernel_rfl) (by kernel_rfl) (by kernel_rfl) (fun Q hQ => ?_)
  simp only [List.take_succ_cons, List.take_zero, List.drop_succ_cons, List.drop_zero]
  repeat (quiet_step (first | exact Calls.regrown_of (mulK_c _ _ _ _ F3'.out) | exact Calls.regrown_of (subK_c _ _ _ _ F4'.out) | exact Calls.regrown_of (sub_c _ _ _ _ F5'.out) | exact Calls.regrown_of (mulK_c _ _ _ _ F6'.out) | exact Calls.regrown_of (sub_c _ _ _ _ F7'.out) | exact Calls.regrown_of (mulK_c _ _ _ _ F8'.out)))
  refine wpQuiet_nil ?_
  clear g22 g23 g24
  intro W25 hw
  replace H := H.regrown hw
  clear hw W21
  have c6 := H.at_ 5 rfl; have c7 := H.at_ 4 rfl; have c8 := H.at_ 3 rfl; have f6 := H.fz 5 rfl; have f7 := H.fz 4 rfl; have f8 := H.fz 3 rfl
  have hB := (((H.set 5 r0 rfl).set 4 r1 rfl).set 3 r2 rfl).bel
  clear H
  go_wp2
  exact bodyPost_ret (v := .tuple #[fl r0, fl r1, fl r2]) (by simp [results, Try.results16, go_sem, c6, c7, c8]) rfl ⟨rfl, hB⟩
set_option maxRecDepth 100000 in
set_option maxHeartbeats 4000000 in
theorem lab_3 (x y z x1 z1 c0 c1 c2 u0 u1 u2 r0 r1 r2 p2 q2 : Nat) (w : World) (F1 : floatBits .quo .f64 x 4606860822843362778 = some x1) (F2 : floatBits .quo .f64 z 4605607101106091996 = some z1) (b0 : gtB x1 4576259018578689238 = true) (K0 : CubP x1 c0) (b1 : gtB y 4576259018578689238 = true) (K1 : CubP y c1) (b2 : gtB z1 4576259018578689238 = false) (P2 : floatBits .mul .f64 z1 4651156694067819558 = some p2) (Q2 : floatBits .add .f64 p2 4625196817309499392 = some q2) (S2 : floatBits .quo .f64 q2 4637863191261478912 = some c2) (F3 : floatBits .mul .f64 c1 4637863191261478912 = some u0) (F4 : floatBits .sub .f64 u0 4625196817309499392 = some r0) (F5 : floatBits .sub .f64 c0 c1 = some u1) (F6 : floatBits .mul .f64 u1 4647503709213818880 = some r1) (F7 : floatBits .sub .f64 c1 c2 = some u2) (F8 : floatBits .mul .f64 u2 4641240890982006784 = some r2) : Calls Try.prog 16 #[fl x, fl y, fl z] w fun e w' => e = .returned (.tuple #[fl r0, fl r1, fl r2]) ∧ Below w.heap.size w w' := by
  have st := st_fl
  have F1' := Lib.hid F1
  have F2' := Lib.hid F2
  have F3' := Lib.hid F3
  have F4' := Lib.hid F4
  have F5' := Lib.hid F5
  have F6' := Lib.hid F6
  have F7' := Lib.hid F7
  have F8' := Lib.hid F8
  have K0' := Lib.hid K0
  have K1' := Lib.hid K1
  have P2' := Lib.hid P2
  have Q2' := Lib.hid Q2
  have S2' := Lib.hid S2
  clear F1 F2 F3 F4 F5 F6 F7 F8 K0 K1 P2 Q2 S2
  have e0' : (FloatKind.f64.format.order x1 4576259018578689238 == some .gt) = true := b0
  have e1' : (FloatKind.f64.format.order y 4576259018578689238 == some .gt) = true := b1
  have e2' : (FloatKind.f64.format.order z1 4576259018578689238 == some .gt) = false := b2
  clear b0 b1 b2
  go_enter Try.func16, Try.ntmps16
  go_upto_region 1 with (fail)
  refine wp_gen fun W0 hW => ?_
  have H : CL w [(w.heap.size + 1 + 1 + 1 + 1 + 1, 0), (w.heap.size + 1 + 1 + 1 + 1, 0), (w.heap.size + 1 + 1 + 1, 0), (w.heap.size + 1 + 1, z), (w.heap.size + 1, y), (w.heap.size, x)] W0 := by rw [hW]; have := ((((((CL.start w).new x 30).new y 30).new z 30).new 0 30).new 0 30).new 0 30; simpa using this
  clear hW
  have g1 := fun d os => cell_regrown (H.at_ 5 rfl) d os
  refine seq_tail 2 (fun Q hQ => ?_)
  simp only [List.take_succ_cons, List.take_zero, List.drop_succ_cons, List.drop_zero]
  repeat (quiet_step (first | exact Calls.regrown_of (divK_c _ _ _ _ F1'.out)))
  refine wpQuiet_nil ?_
  clear g1
  intro W2 hw
  replace H := H.regrown hw
  clear hw W0
  have cz := H.at_ 5 rfl
  have fz := H.fz 5 rfl
  go_upto_region 2 with (fail)
  clear cz fz
  refine wp_gen fun W3 hW => ?_
  replace H : CL w [(w.heap.size + 1 + 1 + 1 + 1 + 1, 0), (w.heap.size + 1 + 1 + 1 + 1, 0), (w.heap.size + 1 + 1 + 1, 0), (w.heap.size + 1 + 1, z), (w.heap.size + 1, y), (w.heap.size, x1)] W3 := by rw [hW]; exact H.set 5 x1 rfl
  clear hW W2
  have g4 := fun d os => cell_regrown (H.at_ 3 rfl) d os
  refine seq_tail 2 (fun Q hQ => ?_)
  simp only [List.take_succ_cons, List.take_zero, List.drop_succ_cons, List.drop_zero]
  repeat (quiet_step (first | exact Calls.regrown_of (divK_c _ _ _ _ F2'.out)))
  refine wpQuiet_nil ?_
  clear g4
  intro W5 hw
  replace H := H.regrown hw
  clear hw W3
  have cz := H.at_ 3 rfl
  have fz := H.fz 3 rfl
  go_upto_region 4 with (fail)
  clear cz fz
  refine wp_gen fun W6 hW => ?_
  replace H := (((H.set 3 z1 rfl).new 0 30).new 0 30).new 0 30
  have hz : (W5.setCell ⟨w.heap.size + 1 + 1, 0, none⟩ (.float .f64 z1)).heap.size = W5.heap.size := by simp [go_sem]
  skip
  have H2 : CL w [(W5.heap.size + 1 + 1, 0), (W5.heap.size + 1, 0), (W5.heap.size, 0), (w.heap.size + 1 + 1 + 1 + 1 + 1, 0), (w.heap.size + 1 + 1 + 1 + 1, 0), (w.heap.size + 1 + 1 + 1, 0), (w.heap.size + 1 + 1, z1), (w.heap.size + 1, y), (w.heap.size, x1)] W6 := by rw [hW]; simpa [go_sem] using H
  clear H hz hW
  generalize W5.heap.size = q9 at H2
  have H := H2
  clear H2 W5
  have g7 := fun d os => cell_regrown (H.at_ 8 rfl) d os
  refine seq_tail 2 (fun Q hQ => ?_)
  simp only [List.take_succ_cons, List.take_zero, List.drop_succ_cons, List.drop_zero]
  repeat (quiet_step (first | exact Calls.regrown_of (valB_c _ _)))
  refine wpQuiet_nil ?_
  clear g7
  intro W8 hw
  replace H := H.regrown hw
  clear hw W6
  go_upto_region 5 with (fail)
  have g9 := fun d os => cell_regrown (H.at_ 8 rfl) d os
  refine seq_tail 2 (fun Q hQ => ?_)
  simp only [List.take_succ_cons, List.take_zero, List.drop_succ_cons, List.drop_zero]
  repeat (quiet_step (first | exact Calls.regrown_of (cbrt_c _ _ _ K0'.out)))
  refine wpQuiet_nil ?_
  clear g9
  intro W10 hw
  replace H := H.regrown hw
  clear hw W8
  have cz := H.at_ 2 rfl
  have fz := H.fz 2 rfl
  go_upto_region 7 with (fail)
  clear cz fz
  refine wp_gen fun W11 hW => ?_
  replace H : CL w [(q9 + 1 + 1, 0), (q9 + 1, 0), (q9, c0), (w.heap.size + 1 + 1 + 1 + 1 + 1, 0), (w.heap.size + 1 + 1 + 1 + 1, 0), (w.heap.size + 1 + 1 + 1, 0), (w.heap.size + 1 + 1, z1), (w.heap.size + 1, y), (w.heap.size, x1)] W11 := by rw [hW]; exact H.set 2 c0 rfl
  clear hW W10
  have g12 := fun d os => cell_regrown (H.at_ 7 rfl) d os
  refine seq_tail 2 (fun Q hQ => ?_)
  simp only [List.take_succ_cons, List.take_zero, List.drop_succ_cons, List.drop_zero]
  repeat (quiet_step (first | exact Calls.regrown_of (valB_c _ _)))
  refine wpQuiet_nil ?_
  clear g12
  intro W13 hw
  replace H := H.regrown hw
  clear hw W11
  go_upto_region 8 with (fail)
  have g14 := fun d os => cell_regrown (H.at_ 7 rfl) d os
  refine seq_tail 2 (fun Q hQ => ?_)
  simp only [List.take_succ_cons, List.take_zero, List.drop_succ_cons, List.drop_zero]
  repeat (quiet_step (first | exact Calls.regrown_of (cbrt_c _ _ _ K1'.out)))
  refine wpQuiet_nil ?_
  clear g14
  intro W15 hw
  replace H := H.regrown hw
  clear hw W13
  have cz := H.at_ 1 rfl
  have fz := H.fz 1 rfl
  go_upto_region 10 with (fail)
  clear cz fz
  refine wp_gen fun W16 hW => ?_
  replace H : CL w [(q9 + 1 + 1, 0), (q9 + 1, c1), (q9, c0), (w.heap.size + 1 + 1 + 1 + 1 + 1, 0), (w.heap.size + 1 + 1 + 1 + 1, 0), (w.heap.size + 1 + 1 + 1, 0), (w.heap.size + 1 + 1, z1), (w.heap.size + 1, y), (w.heap.size, x1)] W16 := by rw [hW]; exact H.set 1 c1 rfl
  clear hW W15
  have g17 := fun d os => cell_regrown (H.at_ 6 rfl) d os
  refine seq_tail 2 (fun Q hQ => ?_)
  simp only [List.take_succ_cons, List.take_zero, List.drop_succ_cons, List.drop_zero]
  repeat (quiet_step (first | exact Calls.regrown_of (valB_c _ _)))
  refine wpQuiet_nil ?_
  clear g17
  intro W18 hw
  replace H := H.regrown hw
  clear hw W16
  go_upto_region 12 with (fail)
  have g19 := fun d os => cell_regrown (H.at_ 6 rfl) d os
  refine seq_tail 4 (fun Q hQ => ?_)
  simp only [List.take_succ_cons, List.take_zero, List.drop_succ_cons, List.drop_zero]
  repeat (quiet_step (first | exact Calls.regrown_of (mulK_c _ _ _ _ P2'.out) | exact Calls.regrown_of (addK_c _ _ _ _ Q2'.out) | exact Calls.regrown_of (divK_c _ _ _ _ S2'.out)))
  refine wpQuiet_nil ?_
  clear g19
  intro W20 hw
  replace H := H.regrown hw
  clear hw W18
  have cz := H.at_ 0 rfl
  have fz := H.fz 0 rfl
  go_upto_region 13 with (fail)
  clear cz fz
  refine wp_gen fun W21 hW => ?_
  replace H : CL w [(q9 + 1 + 1, c2), (q9 + 1, c1), (q9, c0), (w.heap.size + 1 + 1 + 1 + 1 + 1, 0), (w.heap.size + 1 + 1 + 1 + 1, 0), (w.heap.size + 1 + 1 + 1, 0), (w.heap.size + 1 + 1, z1), (w.heap.size + 1, y), (w.heap.size, x1)] W21 := by rw [hW]; exact H.set 0 c2 rfl
  clear hW W20
  have g22 := fun d os => cell_regrown (H.at_ 2 rfl) d os
  have g23 := fun d os => cell_regrown (H.at_ 1 rfl) d os
  have g24 := fun d os => cell_regrown (H.at_ 0 rfl) d os
  refine drawn_tail 11 (by kernel_rfl) (by kernel_rfl) (by kernel_rfl) (fun Q hQ => ?_)
  simp only [List.take_succ_cons, List.take_zero, List.drop_succ_cons, List.drop_zero]
  repeat (quiet_step (first | exact Calls.regrown_of (mulK_c _ _ _ _ F3'.out) | exact Calls.regrown_of (subK_c _ _ _ _ F4'.out) | exact Calls.regrown_of (sub_c _ _ _ _ F5'.out) | exact Calls.regrown_of (mulK_c _ _ _ _ F6'.out) | exact Calls.regrown_of (sub_c _ _ _ _ F7'.out) | exact Calls.regrown_of (mulK_c _ _ _ _ F8'.out)))
  refine wpQuiet_nil ?_
  clear g22 g23 g24
  intro W25 hw
  replace H := H.regrown hw
  clear hw W21
  have c6 := H.at_ 5 rfl; have c7 := H.at_ 4 rfl; have c8 := H.at_ 3 rfl; have f6 := H.fz 5 rfl; have f7 := H.fz 4 rfl; have f8 := H.fz 3 rfl
  have hB := (((H.set 5 r0 rfl).set 4 r1 rfl).set 3 r2 rfl).bel
  clear H
  go_wp2
  exact bodyPost_ret (v := .tuple #[fl r0, fl r1, fl r2]) (by simp [results, Try.results16, go_sem, c6, c7, c8]) rfl ⟨rfl, hB⟩
set_option maxRecDepth 100000 in
set_option maxHeartbeats 4000000 in
theorem lab_4 (x y z x1 z1 c0 c1 c2 u0 u1 u2 r0 r1 r2 p0 q0 p1 q1 : Nat) (w : World) (F1 : floatBits .quo .f64 x 4606860822843362778 = some x1) (F2 : floatBits .quo .f64 z 4605607101106091996 = some z1) (b0 : gtB x1 4576259018578689238 = false) (P0 : floatBits .mul .f64 x1 4651156694067819558 = some p0) (Q0 : floatBits .add .f64 p0 4625196817309499392 = some q0) (S0 : floatBits .quo .f64 q0 4637863191261478912 = some c0) (b1 : gtB y 4576259018578689238 = false) (P1 : floatBits .mul .f64 y 4651156694067819558 = some p1) (Q1 : floatBits .add .f64 p1 4625196817309499392 = some q1) (S1 : floatBits .quo .f64 q1 4637863191261478912 = some c1) (b2 : gtB z1 4576259018578689238 = true) (K2 : CubP z1 c2) (F3 : floatBits .mul .f64 c1 4637863191261478912 = some u0) (F4 : floatBits .sub .f64 u0 4625196817309499392 = some r0) (F5 : floatBits .sub .f64 c0 c1 = some u1) (F6 : floatBits .mul .f64 u1 4647503709213818880 = some r1) (F7 : floatBits .sub .f64 c1 c2 = some u2) (F8 : floatBits .mul .f64 u2 4641240890982006784 = some r2) : Calls Try.prog 16 #[fl x, fl y, fl z] w fun e w' => e = .returned (.tuple #[fl r0, fl r1, fl r2]) ∧ Below w.heap.size w w' := by
  have st := st_fl
  have F1' := Lib.hid F1
  have F2' := Lib.hid F2
  have F3' := Lib.hid F3
  have F4' := Lib.hid F4
  have F5' := Lib.hid F5
  have F6' := Lib.hid F6
  have F7' := Lib.hid F7
  have F8' := Lib.hid F8
  have P0' := Lib.hid P0
  have Q0' := Lib.hid Q0
  have S0' := Lib.hid S0
  have P1' := Lib.hid P1
  have Q1' := Lib.hid Q1
  have S1' := Lib.hid S1
  have K2' := Lib.hid K2
  clear F1 F2 F3 F4 F5 F6 F7 F8 P0 Q0 S0 P1 Q1 S1 K2
  have e0' : (FloatKind.f64.format.order x1 4576259018578689238 == some .gt) = false := b0
  have e1' : (FloatKind.f64.format.order y 4576259018578689238 == some .gt) = false := b1
  have e2' : (FloatKind.f64.format.order z1 4576259018578689238 == some .gt) = true := b2
  clear b0 b1 b2
  go_enter Try.func16, Try.ntmps16
  go_upto_region 1 with (fail)
  refine wp_gen fun W0 hW => ?_
  have H : CL w [(w.heap.size + 1 + 1 + 1 + 1 + 1, 0), (w.heap.size + 1 + 1 + 1 + 1, 0), (w.heap.size + 1 + 1 + 1, 0), (w.heap.size + 1 + 1, z), (w.heap.size + 1, y), (w.heap.size, x)] W0 := by rw [hW]; have := ((((((CL.start w).new x 30).new y 30).new z 30).new 0 30).new 0 30).new 0 30; simpa using this
  clear hW
  have g1 := fun d os => cell_regrown (H.at_ 5 rfl) d os
  refine seq_tail 2 (fun Q hQ => ?_)
  simp only [List.take_succ_cons, List.take_zero, List.drop_succ_cons, List.drop_zero]
  repeat (quiet_step (first | exact Calls.regrown_of (divK_c _ _ _ _ F1'.out)))
  refine wpQuiet_nil ?_
  clear g1
  intro W2 hw
  replace H := H.regrown hw
  clear hw W0
  have cz := H.at_ 5 rfl
  have fz := H.fz 5 rfl
  go_upto_region 2 with (fail)
  clear cz fz
  refine wp_gen fun W3 hW => ?_
  replace H : CL w [(w.heap.size + 1 + 1 + 1 + 1 + 1, 0), (w.heap.size + 1 + 1 + 1 + 1, 0), (w.heap.size + 1 + 1 + 1, 0), (w.heap.size + 1 + 1, z), (w.heap.size + 1, y), (w.heap.size, x1)] W3 := by rw [hW]; exact H.set 5 x1 rfl
  clear hW W2
  have g4 := fun d os => cell_regrown (H.at_ 3 rfl) d os
  refine seq_tail 2 (fun Q hQ => ?_)
  simp only [List.take_succ_cons, List.take_zero, List.drop_succ_cons, List.drop_zero]
  repeat (quiet_step (first | exact Calls.regrown_of (divK_c _ _ _ _ F2'.out)))
  refine wpQuiet_nil ?_
  clear g4
  intro W5 hw
  replace H := H.regrown hw
  clear hw W3
  have cz := H.at_ 3 rfl
  have fz := H.fz 3 rfl
  go_upto_region 4 with (fail)
  clear cz fz
  refine wp_gen fun W6 hW => ?_
  replace H := (((H.set 3 z1 rfl).new 0 30).new 0 30).new 0 30
  have hz : (W5.setCell ⟨w.heap.size + 1 + 1, 0, none⟩ (.float .f64 z1)).heap.size = W5.heap.size := by simp [go_sem]
  skip
  have H2 : CL w [(W5.heap.size + 1 + 1, 0), (W5.heap.size + 1, 0), (W5.heap.size, 0), (w.heap.size + 1 + 1 + 1 + 1 + 1, 0), (w.heap.size + 1 + 1 + 1 + 1, 0), (w.heap.size + 1 + 1 + 1, 0), (w.heap.size + 1 + 1, z1), (w.heap.size + 1, y), (w.heap.size, x1)] W6 := by rw [hW]; simpa [go_sem] using H
  clear H hz hW
  generalize W5.heap.size = q9 at H2
  have H := H2
  clear H2 W5
  have g7 := fun d os => cell_regrown (H.at_ 8 rfl) d os
  refine seq_tail 2 (fun Q hQ => ?_)
  simp only [List.take_succ_cons, List.take_zero, List.drop_succ_cons, List.drop_zero]
  repeat (quiet_step (first | exact Calls.regrown_of (valB_c _ _)))
  refine wpQuiet_nil ?_
  clear g7
  intro W8 hw
  replace H := H.regrown hw
  clear hw W6
  go_upto_region 6 with (fail)
  have g9 := fun d os => cell_regrown (H.at_ 8 rfl) d os
  refine seq_tail 4 (fun Q hQ => ?_)
  simp only [List.take_succ_cons, List.take_zero, List.drop_succ_cons, List.drop_zero]
  repeat (quiet_step (first | exact Calls.regrown_of (mulK_c _ _ _ _ P0'.out) | exact Calls.regrown_of (addK_c _ _ _ _ Q0'.out) | exact Calls.regrown_of (divK_c _ _ _ _ S0'.out)))
  refine wpQuiet_nil ?_
  clear g9
  intro W10 hw
  replace H := H.regrown hw
  clear hw W8
  have cz := H.at_ 2 rfl
  have fz := H.fz 2 rfl
  go_upto_region 7 with (fail)
  clear cz fz
  refine wp_gen fun W11 hW => ?_
  replace H : CL w [(q9 + 1 + 1, 0), (q9 + 1, 0), (q9, c0), (w.heap.size + 1 + 1 + 1 + 1 + 1, 0), (w.heap.size + 1 + 1 + 1 + 1, 0), (w.heap.size + 1 + 1 + 1, 0), (w.heap.size + 1 + 1, z1), (w.heap.size + 1, y), (w.heap.size, x1)] W11 := by rw [hW]; exact H.set 2 c0 rfl
  clear hW W10
  have g12 := fun d os => cell_regrown (H.at_ 7 rfl) d os
  refine seq_tail 2 (fun Q hQ => ?_)
  simp only [List.take_succ_cons, List.take_zero, List.drop_succ_cons, List.drop_zero]
  repeat (quiet_step (first | exact Calls.regrown_of (valB_c _ _)))
  refine wpQuiet_nil ?_
  clear g12
  intro W13 hw
  replace H := H.regrown hw
  clear hw W11
  go_upto_region 9 with (fail)
  have g14 := fun d os => cell_regrown (H.at_ 7 rfl) d os
  refine seq_tail 4 (fun Q hQ => ?_)
  simp only [List.take_succ_cons, List.take_zero, List.drop_succ_cons, List.drop_zero]
  repeat (quiet_step (first | exact Calls.regrown_of (mulK_c _ _ _ _ P1'.out) | exact Calls.regrown_of (addK_c _ _ _ _ Q1'.out) | exact Calls.regrown_of (divK_c _ _ _ _ S1'.out)))
  refine wpQuiet_nil ?_
  clear g14
  intro W15 hw
  replace H := H.regrown hw
  clear hw W13
  have cz := H.at_ 1 rfl
  have fz := H.fz 1 rfl
  go_upto_region 10 with (fail)
  clear cz fz
  refine wp_gen fun W16 hW => ?_
  replace H : CL w [(q9 + 1 + 1, 0), (q9 + 1, c1), (q9, c0), (w.heap.size + 1 + 1 + 1 + 1 + 1, 0), (w.heap.size + 1 + 1 + 1 + 1, 0), (w.heap.size + 1 + 1 + 1, 0), (w.heap.size + 1 + 1, z1), (w.heap.size + 1, y), (w.heap.size, x1)] W16 := by rw [hW]; exact H.set 1 c1 rfl
  clear hW W15
  have g17 := fun d os => cell_regrown (H.at_ 6 rfl) d os
  refine seq_tail 2 (fun Q hQ => ?_)
  simp only [List.take_succ_cons, List.take_zero, List.drop_succ_cons, List.drop_zero]
  repeat (quiet_step (first | exact Calls.regrown_of (valB_c _ _)))
  refine wpQuiet_nil ?_
  clear g17
  intro W18 hw
  replace H := H.regrown hw
  clear hw W16
  go_upto_region 11 with (fail)
  have g19 := fun d os => cell_regrown (H.at_ 6 rfl) d os
  refine seq_tail 2 (fun Q hQ => ?_)
  simp only [List.take_succ_cons, List.take_zero, List.drop_succ_cons, List.drop_zero]
  repeat (quiet_step (first | exact Calls.regrown_of (cbrt_c _ _ _ K2'.out)))
  refine wpQuiet_nil ?_
  clear g19
  intro W20 hw
  replace H := H.regrown hw
  clear hw W18
  have cz := H.at_ 0 rfl
  have fz := H.fz 0 rfl
  go_upto_region 13 with (fail)
  clear cz fz
  refine wp_gen fun W21 hW => ?_
  replace H : CL w [(q9 + 1 + 1, c2), (q9 + 1, c1), (q9, c0), (w.heap.size + 1 + 1 + 1 + 1 + 1, 0), (w.heap.size + 1 + 1 + 1 + 1, 0), (w.heap.size + 1 + 1 + 1, 0), (w.heap.size + 1 + 1, z1), (w.heap.size + 1, y), (w.heap.size, x1)] W21 := by rw [hW]; exact H.set 0 c2 rfl
  clear hW W20
  have g22 := fun d os => cell_regrown (H.at_ 2 rfl) d os
  have g23 := fun d os => cell_regrown (H.at_ 1 rfl) d os
  have g24 := fun d os => cell_regrown (H.at_ 0 rfl) d os
  refine drawn_tail 11 (by kernel_rfl) (by kernel_rfl) (by kernel_rfl) (fun Q hQ => ?_)
  simp only [List.take_succ_cons, List.take_zero, List.drop_succ_cons, List.drop_zero]
  repeat (quiet_step (first | exact Calls.regrown_of (mulK_c _ _ _ _ F3'.out) | exact Calls.regrown_of (subK_c _ _ _ _ F4'.out) | exact Calls.regrown_of (sub_c _ _ _ _ F5'.out) | exact Calls.regrown_of (mulK_c _ _ _ _ F6'.out) | exact Calls.regrown_of (sub_c _ _ _ _ F7'.out) | exact Calls.regrown_of (mulK_c _ _ _ _ F8'.out)))
  refine wpQuiet_nil ?_
  clear g22 g23 g24
  intro W25 hw
  replace H := H.regrown hw
  clear hw W21
  have c6 := H.at_ 5 rfl; have c7 := H.at_ 4 rfl; have c8 := H.at_ 3 rfl; have f6 := H.fz 5 rfl; have f7 := H.fz 4 rfl; have f8 := H.fz 3 rfl
  have hB := (((H.set 5 r0 rfl).set 4 r1 rfl).set 3 r2 rfl).bel
  clear H
  go_wp2
  exact bodyPost_ret (v := .tuple #[fl r0, fl r1, fl r2]) (by simp [results, Try.results16, go_sem, c6, c7, c8]) rfl ⟨rfl, hB⟩
set_option maxRecDepth 100000 in
set_option maxHeartbeats 4000000 in
theorem lab_5 (x y z x1 z1 c0 c1 c2 u0 u1 u2 r0 r1 r2 p1 q1 : Nat) (w : World) (F1 : floatBits .quo .f64 x 4606860822843362778 = some x1) (F2 : floatBits .quo .f64 z 4605607101106091996 = some z1) (b0 : gtB x1 4576259018578689238 = true) (K0 : CubP x1 c0) (b1 : gtB y 4576259018578689238 = false) (P1 : floatBits .mul .f64 y 4651156694067819558 = some p1) (Q1 : floatBits .add .f64 p1 4625196817309499392 = some q1) (S1 : floatBits .quo .f64 q1 4637863191261478912 = some c1) (b2 : gtB z1 4576259018578689238 = true) (K2 : CubP z1 c2) (F3 : floatBits .mul .f64 c1 4637863191261478912 = some u0) (F4 : floatBits .sub .f64 u0 4625196817309499392 = some r0) (F5 : floatBits .sub .f64 c0 c1 = some u1) (F6 : floatBits .mul .f64 u1 4647503709213818880 = some r1) (F7 : floatBits .sub .f64 c1 c2 = some u2) (F8 : floatBits .mul .f64 u2 4641240890982006784 = some r2) : Calls Try.prog 16 #[fl x, fl y, fl z] w fun e w' => e = .returned (.tuple #[fl r0, fl r1, fl r2]) ∧ Below w.heap.size w w' := by
  have st := st_fl
  have F1' := Lib.hid F1
  have F2' := Lib.hid F2
  have F3' := Lib.hid F3
  have F4' := Lib.hid F4
  have F5' := Lib.hid F5
  have F6' := Lib.hid F6
  have F7' := Lib.hid F7
  have F8' := Lib.hid F8
  have K0' := Lib.hid K0
  have P1' := Lib.hid P1
  have Q1' := Lib.hid Q1
  have S1' := Lib.hid S1
  have K2' := Lib.hid K2
  clear F1 F2 F3 F4 F5 F6 F7 F8 K0 P1 Q1 S1 K2
  have e0' : (FloatKind.f64.format.order x1 4576259018578689238 == some .gt) = true := b0
  have e1' : (FloatKind.f64.format.order y 4576259018578689238 == some .gt) = false := b1
  have e2' : (FloatKind.f64.format.order z1 4576259018578689238 == some .gt) = true := b2
  clear b0 b1 b2
  go_enter Try.func16, Try.ntmps16
  go_upto_region 1 with (fail)
  refine wp_gen fun W0 hW => ?_
  have H : CL w [(w.heap.size + 1 + 1 + 1 + 1 + 1, 0), (w.heap.size + 1 + 1 + 1 + 1, 0), (w.heap.size + 1 + 1 + 1, 0), (w.heap.size + 1 + 1, z), (w.heap.size + 1, y), (w.heap.size, x)] W0 := by rw [hW]; have := ((((((CL.start w).new x 30).new y 30).new z 30).new 0 30).new 0 30).new 0 30; simpa using this
  clear hW
  have g1 := fun d os => cell_regrown (H.at_ 5 rfl) d os
  refine seq_tail 2 (fun Q hQ => ?_)
  simp only [List.take_succ_cons, List.take_zero, List.drop_succ_cons, List.drop_zero]
  repeat (quiet_step (first | exact Calls.regrown_of (divK_c _ _ _ _ F1'.out)))
  refine wpQuiet_nil ?_
  clear g1
  intro W2 hw
  replace H := H.regrown hw
  clear hw W0
  have cz := H.at_ 5 rfl
  have fz := H.fz 5 rfl
  go_upto_region 2 with (fail)
  clear cz fz
  refine wp_gen fun W3 hW => ?_
  replace H : CL w [(w.heap.size + 1 + 1 + 1 + 1 + 1, 0), (w.heap.size + 1 + 1 + 1 + 1, 0), (w.heap.size + 1 + 1 + 1, 0), (w.heap.size + 1 + 1, z), (w.heap.size + 1, y), (w.heap.size, x1)] W3 := by rw [hW]; exact H.set 5 x1 rfl
  clear hW W2
  have g4 := fun d os => cell_regrown (H.at_ 3 rfl) d os
  refine seq_tail 2 (fun Q hQ => ?_)
  simp only [List.take_succ_cons, List.take_zero, List.drop_succ_cons, List.drop_zero]
  repeat (quiet_step (first | exact Calls.regrown_of (divK_c _ _ _ _ F2'.out)))
  refine wpQuiet_nil ?_
  clear g4
  intro W5 hw
  replace H := H.regrown hw
  clear hw W3
  have cz := H.at_ 3 rfl
  have fz := H.fz 3 rfl
  go_upto_region 4 with (fail)
  clear cz fz
  refine wp_gen fun W6 hW => ?_
  replace H := (((H.set 3 z1 rfl).new 0 30).new 0 30).new 0 30
  have hz : (W5.setCell ⟨w.heap.size + 1 + 1, 0, none⟩ (.float .f64 z1)).heap.size = W5.heap.size := by simp [go_sem]
  skip
  have H2 : CL w [(W5.heap.size + 1 + 1, 0), (W5.heap.size + 1, 0), (W5.heap.size, 0), (w.heap.size + 1 + 1 + 1 + 1 + 1, 0), (w.heap.size + 1 + 1 + 1 + 1, 0), (w.heap.size + 1 + 1 + 1, 0), (w.heap.size + 1 + 1, z1), (w.heap.size + 1, y), (w.heap.size, x1)] W6 := by rw [hW]; simpa [go_sem] using H
  clear H hz hW
  generalize W5.heap.size = q9 at H2
  have H := H2
  clear H2 W5
  have g7 := fun d os => cell_regrown (H.at_ 8 rfl) d os
  refine seq_tail 2 (fun Q hQ => ?_)
  simp only [List.take_succ_cons, List.take_zero, List.drop_succ_cons, List.drop_zero]
  repeat (quiet_step (first | exact Calls.regrown_of (valB_c _ _)))
  refine wpQuiet_nil ?_
  clear g7
  intro W8 hw
  replace H := H.regrown hw
  clear hw W6
  go_upto_region 5 with (fail)
  have g9 := fun d os => cell_regrown (H.at_ 8 rfl) d os
  refine seq_tail 2 (fun Q hQ => ?_)
  simp only [List.take_succ_cons, List.take_zero, List.drop_succ_cons, List.drop_zero]
  repeat (quiet_step (first | exact Calls.regrown_of (cbrt_c _ _ _ K0'.out)))
  refine wpQuiet_nil ?_
  clear g9
  intro W10 hw
  replace H := H.regrown hw
  clear hw W8
  have cz := H.at_ 2 rfl
  have fz := H.fz 2 rfl
  go_upto_region 7 with (fail)
  clear cz fz
  refine wp_gen fun W11 hW => ?_
  replace H : CL w [(q9 + 1 + 1, 0), (q9 + 1, 0), (q9, c0), (w.heap.size + 1 + 1 + 1 + 1 + 1, 0), (w.heap.size + 1 + 1 + 1 + 1, 0), (w.heap.size + 1 + 1 + 1, 0), (w.heap.size + 1 + 1, z1), (w.heap.size + 1, y), (w.heap.size, x1)] W11 := by rw [hW]; exact H.set 2 c0 rfl
  clear hW W10
  have g12 := fun d os => cell_regrown (H.at_ 7 rfl) d os
  refine seq_tail 2 (fun Q hQ => ?_)
  simp only [List.take_succ_cons, List.take_zero, List.drop_succ_cons, List.drop_zero]
  repeat (quiet_step (first | exact Calls.regrown_of (valB_c _ _)))
  refine wpQuiet_nil ?_
  clear g12
  intro W13 hw
  replace H := H.regrown hw
  clear hw W11
  go_upto_region 9 with (fail)
  have g14 := fun d os => cell_regrown (H.at_ 7 rfl) d os
  refine seq_tail 4 (fun Q hQ => ?_)
  simp only [List.take_succ_cons, List.take_zero, List.drop_succ_cons, List.drop_zero]
  repeat (quiet_step (first | exact Calls.regrown_of (mulK_c _ _ _ _ P1'.out) | exact Calls.regrown_of (addK_c _ _ _ _ Q1'.out) | exact Calls.regrown_of (divK_c _ _ _ _ S1'.out)))
  refine wpQuiet_nil ?_
  clear g14
  intro W15 hw
  replace H := H.regrown hw
  clear hw W13
  have cz := H.at_ 1 rfl
  have fz := H.fz 1 rfl
  go_upto_region 10 with (fail)
  clear cz fz
  refine wp_gen fun W16 hW => ?_
  replace H : CL w [(q9 + 1 + 1, 0), (q9 + 1, c1), (q9, c0), (w.heap.size + 1 + 1 + 1 + 1 + 1, 0), (w.heap.size + 1 + 1 + 1 + 1, 0), (w.heap.size + 1 + 1 + 1, 0), (w.heap.size + 1 + 1, z1), (w.heap.size + 1, y), (w.heap.size, x1)] W16 := by rw [hW]; exact H.set 1 c1 rfl
  clear hW W15
  have g17 := fun d os => cell_regrown (H.at_ 6 rfl) d os
  refine seq_tail 2 (fun Q hQ => ?_)
  simp only [List.take_succ_cons, List.take_zero, List.drop_succ_cons, List.drop_zero]
  repeat (quiet_step (first | exact Calls.regrown_of (valB_c _ _)))
  refine wpQuiet_nil ?_
  clear g17
  intro W18 hw
  replace H := H.regrown hw
  clear hw W16
  go_upto_region 11 with (fail)
  have g19 := fun d os => cell_regrown (H.at_ 6 rfl) d os
  refine seq_tail 2 (fun Q hQ => ?_)
  simp only [List.take_succ_cons, List.take_zero, List.drop_succ_cons, List.drop_zero]
  repeat (quiet_step (first | exact Calls.regrown_of (cbrt_c _ _ _ K2'.out)))
  refine wpQuiet_nil ?_
  clear g19
  intro W20 hw
  replace H := H.regrown hw
  clear hw W18
  have cz := H.at_ 0 rfl
  have fz := H.fz 0 rfl
  go_upto_region 13 with (fail)
  clear cz fz
  refine wp_gen fun W21 hW => ?_
  replace H : CL w [(q9 + 1 + 1, c2), (q9 + 1, c1), (q9, c0), (w.heap.size + 1 + 1 + 1 + 1 + 1, 0), (w.heap.size + 1 + 1 + 1 + 1, 0), (w.heap.size + 1 + 1 + 1, 0), (w.heap.size + 1 + 1, z1), (w.heap.size + 1, y), (w.heap.size, x1)] W21 := by rw [hW]; exact H.set 0 c2 rfl
  clear hW W20
  have g22 := fun d os => cell_regrown (H.at_ 2 rfl) d os
  have g23 := fun d os => cell_regrown (H.at_ 1 rfl) d os
  have g24 := fun d os => cell_regrown (H.at_ 0 rfl) d os
  refine drawn_tail 11 (by kernel_rfl) (by kernel_rfl) (by kernel_rfl) (fun Q hQ => ?_)
  simp only [List.take_succ_cons, List.take_zero, List.drop_succ_cons, List.drop_zero]
  repeat (quiet_step (first | exact Calls.regrown_of (mulK_c _ _ _ _ F3'.out) | exact Calls.regrown_of (subK_c _ _ _ _ F4'.out) | exact Calls.regrown_of (sub_c _ _ _ _ F5'.out) | exact Calls.regrown_of (mulK_c _ _ _ _ F6'.out) | exact Calls.regrown_of (sub_c _ _ _ _ F7'.out) | exact Calls.regrown_of (mulK_c _ _ _ _ F8'.out)))
  refine wpQuiet_nil ?_
  clear g22 g23 g24
  intro W25 hw
  replace H := H.regrown hw
  clear hw W21
  have c6 := H.at_ 5 rfl; have c7 := H.at_ 4 rfl; have c8 := H.at_ 3 rfl; have f6 := H.fz 5 rfl; have f7 := H.fz 4 rfl; have f8 := H.fz 3 rfl
  have hB := (((H.set 5 r0 rfl).set 4 r1 rfl).set 3 r2 rfl).bel
  clear H
  go_wp2
  exact bodyPost_ret (v := .tuple #[fl r0, fl r1, fl r2]) (by simp [results, Try.results16, go_sem, c6, c7, c8]) rfl ⟨rfl, hB⟩
set_option maxRecDepth 100000 in
set_option maxHeartbeats 4000000 in
theorem lab_6 (x y z x1 z1 c0 c1 c2 u0 u1 u2 r0 r1 r2 p0 q0 : Nat) (w : World) (F1 : floatBits .quo .f64 x 4606860822843362778 = some x1) (F2 : floatBits .quo .f64 z 4605607101106091996 = some z1) (b0 : gtB x1 4576259018578689238 = false) (P0 : floatBits .mul .f64 x1 4651156694067819558 = some p0) (Q0 : floatBits .add .f64 p0 4625196817309499392 = some q0) (S0 : floatBits .quo .f64 q0 4637863191261478912 = some c0) (b1 : gtB y 4576259018578689238 = true) (K1 : CubP y c1) (b2 : gtB z1 4576259018578689238 = true) (K2 : CubP z1 c2) (F3 : floatBits .mul .f64 c1 4637863191261478912 = some u0) (F4 : floatBits .sub .f64 u0 4625196817309499392 = some r0) (F5 : floatBits .sub .f64 c0 c1 = some u1) (F6 : floatBits .mul .f64 u1 4647503709213818880 = some r1) (F7 : floatBits .sub .f64 c1 c2 = some u2) (F8 : floatBits .mul .f64 u2 4641240890982006784 = some r2) : Calls Try.prog 16 #[fl x, fl y, fl z] w fun e w' => e = .returned (.tuple #[fl r0, fl r1, fl r2]) ∧ Below w.heap.size w w' := by
  have st := st_fl
  have F1' := Lib.hid F1
  have F2' := Lib.hid F2
  have F3' := Lib.hid F3
  have F4' := Lib.hid F4
  have F5' := Lib.hid F5
  have F6' := Lib.hid F6
  have F7' := Lib.hid F7
  have F8' := Lib.hid F8
  have P0' := Lib.hid P0
  have Q0' := Lib.hid Q0
  have S0' := Lib.hid S0
  have K1' := Lib.hid K1
  have K2' := Lib.hid K2
  clear F1 F2 F3 F4 F5 F6 F7 F8 P0 Q0 S0 K1 K2
  have e0' : (FloatKind.f64.format.order x1 4576259018578689238 == some .gt) = false := b0
  have e1' : (FloatKind.f64.format.order y 4576259018578689238 == some .gt) = true := b1
  have e2' : (FloatKind.f64.format.order z1 4576259018578689238 == some .gt) = true := b2
  clear b0 b1 b2
  go_enter Try.func16, Try.ntmps16
  go_upto_region 1 with (fail)
  refine wp_gen fun W0 hW => ?_
  have H : CL w [(w.heap.size + 1 + 1 + 1 + 1 + 1, 0), (w.heap.size + 1 + 1 + 1 + 1, 0), (w.heap.size + 1 + 1 + 1, 0), (w.heap.size + 1 + 1, z), (w.heap.size + 1, y), (w.heap.size, x)] W0 := by rw [hW]; have := ((((((CL.start w).new x 30).new y 30).new z 30).new 0 30).new 0 30).new 0 30; simpa using this
  clear hW
  have g1 := fun d os => cell_regrown (H.at_ 5 rfl) d os
  refine seq_tail 2 (fun Q hQ => ?_)
  simp only [List.take_succ_cons, List.take_zero, List.drop_succ_cons, List.drop_zero]
  repeat (quiet_step (first | exact Calls.regrown_of (divK_c _ _ _ _ F1'.out)))
  refine wpQuiet_nil ?_
  clear g1
  intro W2 hw
  replace H := H.regrown hw
  clear hw W0
  have cz := H.at_ 5 rfl
  have fz := H.fz 5 rfl
  go_upto_region 2 with (fail)
  clear cz fz
  refine wp_gen fun W3 hW => ?_
  replace H : CL w [(w.heap.size + 1 + 1 + 1 + 1 + 1, 0), (w.heap.size + 1 + 1 + 1 + 1, 0), (w.heap.size + 1 + 1 + 1, 0), (w.heap.size + 1 + 1, z), (w.heap.size + 1, y), (w.heap.size, x1)] W3 := by rw [hW]; exact H.set 5 x1 rfl
  clear hW W2
  have g4 := fun d os => cell_regrown (H.at_ 3 rfl) d os
  refine seq_tail 2 (fun Q hQ => ?_)
  simp only [List.take_succ_cons, List.take_zero, List.drop_succ_cons, List.drop_zero]
  repeat (quiet_step (first | exact Calls.regrown_of (divK_c _ _ _ _ F2'.out)))
  refine wpQuiet_nil ?_
  clear g4
  intro W5 hw
  replace H := H.regrown hw
  clear hw W3
  have cz := H.at_ 3 rfl
  have fz := H.fz 3 rfl
  go_upto_region 4 with (fail)
  clear cz fz
  refine wp_gen fun W6 hW => ?_
  replace H := (((H.set 3 z1 rfl).new 0 30).new 0 30).new 0 30
  have hz : (W5.setCell ⟨w.heap.size + 1 + 1, 0, none⟩ (.float .f64 z1)).heap.size = W5.heap.size := by simp [go_sem]
  skip
  have H2 : CL w [(W5.heap.size + 1 + 1, 0), (W5.heap.size + 1, 0), (W5.heap.size, 0), (w.heap.size + 1 + 1 + 1 + 1 + 1, 0), (w.heap.size + 1 + 1 + 1 + 1, 0), (w.heap.size + 1 + 1 + 1, 0), (w.heap.size + 1 + 1, z1), (w.heap.size + 1, y), (w.heap.size, x1)] W6 := by rw [hW]; simpa [go_sem] using H
  clear H hz hW
  generalize W5.heap.size = q9 at H2
  have H := H2
  clear H2 W5
  have g7 := fun d os => cell_regrown (H.at_ 8 rfl) d os
  refine seq_tail 2 (fun Q hQ => ?_)
  simp only [List.take_succ_cons, List.take_zero, List.drop_succ_cons, List.drop_zero]
  repeat (quiet_step (first | exact Calls.regrown_of (valB_c _ _)))
  refine wpQuiet_nil ?_
  clear g7
  intro W8 hw
  replace H := H.regrown hw
  clear hw W6
  go_upto_region 6 with (fail)
  have g9 := fun d os => cell_regrown (H.at_ 8 rfl) d os
  refine seq_tail 4 (fun Q hQ => ?_)
  simp only [List.take_succ_cons, List.take_zero, List.drop_succ_cons, List.drop_zero]
  repeat (quiet_step (first | exact Calls.regrown_of (mulK_c _ _ _ _ P0'.out) | exact Calls.regrown_of (addK_c _ _ _ _ Q0'.out) | exact Calls.regrown_of (divK_c _ _ _ _ S0'.out)))
  refine wpQuiet_nil ?_
  clear g9
  intro W10 hw
  replace H := H.regrown hw
  clear hw W8
  have cz := H.at_ 2 rfl
  have fz := H.fz 2 rfl
  go_upto_region 7 with (fail)
  clear cz fz
  refine wp_gen fun W11 hW => ?_
  replace H : CL w [(q9 + 1 + 1, 0), (q9 + 1, 0), (q9, c0), (w.heap.size + 1 + 1 + 1 + 1 + 1, 0), (w.heap.size + 1 + 1 + 1 + 1, 0), (w.heap.size + 1 + 1 + 1, 0), (w.heap.size + 1 + 1, z1), (w.heap.size + 1, y), (w.heap.size, x1)] W11 := by rw [hW]; exact H.set 2 c0 rfl
  clear hW W10
  have g12 := fun d os => cell_regrown (H.at_ 7 rfl) d os
  refine seq_tail 2 (fun Q hQ => ?_)
  simp only [List.take_succ_cons, List.take_zero, List.drop_succ_cons, List.drop_zero]
  repeat (quiet_step (first | exact Calls.regrown_of (valB_c _ _)))
  refine wpQuiet_nil ?_
  clear g12
  intro W13 hw
  replace H := H.regrown hw
  clear hw W11
  go_upto_region 8 with (fail)
  have g14 := fun d os => cell_regrown (H.at_ 7 rfl) d os
  refine seq_tail 2 (fun Q hQ => ?_)
  simp only [List.take_succ_cons, List.take_zero, List.drop_succ_cons, List.drop_zero]
  repeat (quiet_step (first | exact Calls.regrown_of (cbrt_c _ _ _ K1'.out)))
  refine wpQuiet_nil ?_
  clear g14
  intro W15 hw
  replace H := H.regrown hw
  clear hw W13
  have cz := H.at_ 1 rfl
  have fz := H.fz 1 rfl
  go_upto_region 10 with (fail)
  clear cz fz
  refine wp_gen fun W16 hW => ?_
  replace H : CL w [(q9 + 1 + 1, 0), (q9 + 1, c1), (q9, c0), (w.heap.size + 1 + 1 + 1 + 1 + 1, 0), (w.heap.size + 1 + 1 + 1 + 1, 0), (w.heap.size + 1 + 1 + 1, 0), (w.heap.size + 1 + 1, z1), (w.heap.size + 1, y), (w.heap.size, x1)] W16 := by rw [hW]; exact H.set 1 c1 rfl
  clear hW W15
  have g17 := fun d os => cell_regrown (H.at_ 6 rfl) d os
  refine seq_tail 2 (fun Q hQ => ?_)
  simp only [List.take_succ_cons, List.take_zero, List.drop_succ_cons, List.drop_zero]
  repeat (quiet_step (first | exact Calls.regrown_of (valB_c _ _)))
  refine wpQuiet_nil ?_
  clear g17
  intro W18 hw
  replace H := H.regrown hw
  clear hw W16
  go_upto_region 11 with (fail)
  have g19 := fun d os => cell_regrown (H.at_ 6 rfl) d os
  refine seq_tail 2 (fun Q hQ => ?_)
  simp only [List.take_succ_cons, List.take_zero, List.drop_succ_cons, List.drop_zero]
  repeat (quiet_step (first | exact Calls.regrown_of (cbrt_c _ _ _ K2'.out)))
  refine wpQuiet_nil ?_
  clear g19
  intro W20 hw
  replace H := H.regrown hw
  clear hw W18
  have cz := H.at_ 0 rfl
  have fz := H.fz 0 rfl
  go_upto_region 13 with (fail)
  clear cz fz
  refine wp_gen fun W21 hW => ?_
  replace H : CL w [(q9 + 1 + 1, c2), (q9 + 1, c1), (q9, c0), (w.heap.size + 1 + 1 + 1 + 1 + 1, 0), (w.heap.size + 1 + 1 + 1 + 1, 0), (w.heap.size + 1 + 1 + 1, 0), (w.heap.size + 1 + 1, z1), (w.heap.size + 1, y), (w.heap.size, x1)] W21 := by rw [hW]; exact H.set 0 c2 rfl
  clear hW W20
  have g22 := fun d os => cell_regrown (H.at_ 2 rfl) d os
  have g23 := fun d os => cell_regrown (H.at_ 1 rfl) d os
  have g24 := fun d os => cell_regrown (H.at_ 0 rfl) d os
  refine drawn_tail 11 (by kernel_rfl) (by kernel_rfl) (by kernel_rfl) (fun Q hQ => ?_)
  simp only [List.take_succ_cons, List.take_zero, List.drop_succ_cons, List.drop_zero]
  repeat (quiet_step (first | exact Calls.regrown_of (mulK_c _ _ _ _ F3'.out) | exact Calls.regrown_of (subK_c _ _ _ _ F4'.out) | exact Calls.regrown_of (sub_c _ _ _ _ F5'.out) | exact Calls.regrown_of (mulK_c _ _ _ _ F6'.out) | exact Calls.regrown_of (sub_c _ _ _ _ F7'.out) | exact Calls.regrown_of (mulK_c _ _ _ _ F8'.out)))
  refine wpQuiet_nil ?_
  clear g22 g23 g24
  intro W25 hw
  replace H := H.regrown hw
  clear hw W21
  have c6 := H.at_ 5 rfl; have c7 := H.at_ 4 rfl; have c8 := H.at_ 3 rfl; have f6 := H.fz 5 rfl; have f7 := H.fz 4 rfl; have f8 := H.fz 3 rfl
  have hB := (((H.set 5 r0 rfl).set 4 r1 rfl).set 3 r2 rfl).bel
  clear H
  go_wp2
  exact bodyPost_ret (v := .tuple #[fl r0, fl r1, fl r2]) (by simp [results, Try.results16, go_sem, c6, c7, c8]) rfl ⟨rfl, hB⟩
set_option maxRecDepth 100000 in
set_option maxHeartbeats 4000000 in
theorem lab_7 (x y z x1 z1 c0 c1 c2 u0 u1 u2 r0 r1 r2  : Nat) (w : World) (F1 : floatBits .quo .f64 x 4606860822843362778 = some x1) (F2 : floatBits .quo .f64 z 4605607101106091996 = some z1) (b0 : gtB x1 4576259018578689238 = true) (K0 : CubP x1 c0) (b1 : gtB y 4576259018578689238 = true) (K1 : CubP y c1) (b2 : gtB z1 4576259018578689238 = true) (K2 : CubP z1 c2) (F3 : floatBits .mul .f64 c1 4637863191261478912 = some u0) (F4 : floatBits .sub .f64 u0 4625196817309499392 = some r0) (F5 : floatBits .sub .f64 c0 c1 = some u1) (F6 : floatBits .mul .f64 u1 4647503709213818880 = some r1) (F7 : floatBits .sub .f64 c1 c2 = some u2) (F8 : floatBits .mul .f64 u2 4641240890982006784 = some r2) : Calls Try.prog 16 #[fl x, fl y, fl z] w fun e w' => e = .returned (.tuple #[fl r0, fl r1, fl r2]) ∧ Below w.heap.size w w' := by
  have st := st_fl
  have F1' := Lib.hid F1
  have F2' := Lib.hid F2
  have F3' := Lib.hid F3
  have F4' := Lib.hid F4
  have F5' := Lib.hid F5
  have F6' := Lib.hid F6
  have F7' := Lib.hid F7
  have F8' := Lib.hid F8
  have K0' := Lib.hid K0
  have K1' := Lib.hid K1
  have K2' := Lib.hid K2
  clear F1 F2 F3 F4 F5 F6 F7 F8 K0 K1 K2
  have e0' : (FloatKind.f64.format.order x1 4576259018578689238 == some .gt) = true := b0
  have e1' : (FloatKind.f64.format.order y 4576259018578689238 == some .gt) = true := b1
  have e2' : (FloatKind.f64.format.order z1 4576259018578689238 == some .gt) = true := b2
  clear b0 b1 b2
  go_enter Try.func16, Try.ntmps16
  go_upto_region 1 with (fail)
  refine wp_gen fun W0 hW => ?_
  have H : CL w [(w.heap.size + 1 + 1 + 1 + 1 + 1, 0), (w.heap.size + 1 + 1 + 1 + 1, 0), (w.heap.size + 1 + 1 + 1, 0), (w.heap.size + 1 + 1, z), (w.heap.size + 1, y), (w.heap.size, x)] W0 := by rw [hW]; have := ((((((CL.start w).new x 30).new y 30).new z 30).new 0 30).new 0 30).new 0 30; simpa using this
  clear hW
  have g1 := fun d os => cell_regrown (H.at_ 5 rfl) d os
  refine seq_tail 2 (fun Q hQ => ?_)
  simp only [List.take_succ_cons, List.take_zero, List.drop_succ_cons, List.drop_zero]
  repeat (quiet_step (first | exact Calls.regrown_of (divK_c _ _ _ _ F1'.out)))
  refine wpQuiet_nil ?_
  clear g1
  intro W2 hw
  replace H := H.regrown hw
  clear hw W0
  have cz := H.at_ 5 rfl
  have fz := H.fz 5 rfl
  go_upto_region 2 with (fail)
  clear cz fz
  refine wp_gen fun W3 hW => ?_
  replace H : CL w [(w.heap.size + 1 + 1 + 1 + 1 + 1, 0), (w.heap.size + 1 + 1 + 1 + 1, 0), (w.heap.size + 1 + 1 + 1, 0), (w.heap.size + 1 + 1, z), (w.heap.size + 1, y), (w.heap.size, x1)] W3 := by rw [hW]; exact H.set 5 x1 rfl
  clear hW W2
  have g4 := fun d os => cell_regrown (H.at_ 3 rfl) d os
  refine seq_tail 2 (fun Q hQ => ?_)
  simp only [List.take_succ_cons, List.take_zero, List.drop_succ_cons, List.drop_zero]
  repeat (quiet_step (first | exact Calls.regrown_of (divK_c _ _ _ _ F2'.out)))
  refine wpQuiet_nil ?_
  clear g4
  intro W5 hw
  replace H := H.regrown hw
  clear hw W3
  have cz := H.at_ 3 rfl
  have fz := H.fz 3 rfl
  go_upto_region 4 with (fail)
  clear cz fz
  refine wp_gen fun W6 hW => ?_
  replace H := (((H.set 3 z1 rfl).new 0 30).new 0 30).new 0 30
  have hz : (W5.setCell ⟨w.heap.size + 1 + 1, 0, none⟩ (.float .f64 z1)).heap.size = W5.heap.size := by simp [go_sem]
  skip
  have H2 : CL w [(W5.heap.size + 1 + 1, 0), (W5.heap.size + 1, 0), (W5.heap.size, 0), (w.heap.size + 1 + 1 + 1 + 1 + 1, 0), (w.heap.size + 1 + 1 + 1 + 1, 0), (w.heap.size + 1 + 1 + 1, 0), (w.heap.size + 1 + 1, z1), (w.heap.size + 1, y), (w.heap.size, x1)] W6 := by rw [hW]; simpa [go_sem] using H
  clear H hz hW
  generalize W5.heap.size = q9 at H2
  have H := H2
  clear H2 W5
  have g7 := fun d os => cell_regrown (H.at_ 8 rfl) d os
  refine seq_tail 2 (fun Q hQ => ?_)
  simp only [List.take_succ_cons, List.take_zero, List.drop_succ_cons, List.drop_zero]
  repeat (quiet_step (first | exact Calls.regrown_of (valB_c _ _)))
  refine wpQuiet_nil ?_
  clear g7
  intro W8 hw
  replace H := H.regrown hw
  clear hw W6
  go_upto_region 5 with (fail)
  have g9 := fun d os => cell_regrown (H.at_ 8 rfl) d os
  refine seq_tail 2 (fun Q hQ => ?_)
  simp only [List.take_succ_cons, List.take_zero, List.drop_succ_cons, List.drop_zero]
  repeat (quiet_step (first | exact Calls.regrown_of (cbrt_c _ _ _ K0'.out)))
  refine wpQuiet_nil ?_
  clear g9
  intro W10 hw
  replace H := H.regrown hw
  clear hw W8
  have cz := H.at_ 2 rfl
  have fz := H.fz 2 rfl
  go_upto_region 7 with (fail)
  clear cz fz
  refine wp_gen fun W11 hW => ?_
  replace H : CL w [(q9 + 1 + 1, 0), (q9 + 1, 0), (q9, c0), (w.heap.size + 1 + 1 + 1 + 1 + 1, 0), (w.heap.size + 1 + 1 + 1 + 1, 0), (w.heap.size + 1 + 1 + 1, 0), (w.heap.size + 1 + 1, z1), (w.heap.size + 1, y), (w.heap.size, x1)] W11 := by rw [hW]; exact H.set 2 c0 rfl
  clear hW W10
  have g12 := fun d os => cell_regrown (H.at_ 7 rfl) d os
  refine seq_tail 2 (fun Q hQ => ?_)
  simp only [List.take_succ_cons, List.take_zero, List.drop_succ_cons, List.drop_zero]
  repeat (quiet_step (first | exact Calls.regrown_of (valB_c _ _)))
  refine wpQuiet_nil ?_
  clear g12
  intro W13 hw
  replace H := H.regrown hw
  clear hw W11
  go_upto_region 8 with (fail)
  have g14 := fun d os => cell_regrown (H.at_ 7 rfl) d os
  refine seq_tail 2 (fun Q hQ => ?_)
  simp only [List.take_succ_cons, List.take_zero, List.drop_succ_cons, List.drop_zero]
  repeat (quiet_step (first | exact Calls.regrown_of (cbrt_c _ _ _ K1'.out)))
  refine wpQuiet_nil ?_
  clear g14
  intro W15 hw
  replace H := H.regrown hw
  clear hw W13
  have cz := H.at_ 1 rfl
  have fz := H.fz 1 rfl
  go_upto_region 10 with (fail)
  clear cz fz
  refine wp_gen fun W16 hW => ?_
  replace H : CL w [(q9 + 1 + 1, 0), (q9 + 1, c1), (q9, c0), (w.heap.size + 1 + 1 + 1 + 1 + 1, 0), (w.heap.size + 1 + 1 + 1 + 1, 0), (w.heap.size + 1 + 1 + 1, 0), (w.heap.size + 1 + 1, z1), (w.heap.size + 1, y), (w.heap.size, x1)] W16 := by rw [hW]; exact H.set 1 c1 rfl
  clear hW W15
  have g17 := fun d os => cell_regrown (H.at_ 6 rfl) d os
  refine seq_tail 2 (fun Q hQ => ?_)
  simp only [List.take_succ_cons, List.take_zero, List.drop_succ_cons, List.drop_zero]
  repeat (quiet_step (first | exact Calls.regrown_of (valB_c _ _)))
  refine wpQuiet_nil ?_
  clear g17
  intro W18 hw
  replace H := H.regrown hw
  clear hw W16
  go_upto_region 11 with (fail)
  have g19 := fun d os => cell_regrown (H.at_ 6 rfl) d os
  refine seq_tail 2 (fun Q hQ => ?_)
  simp only [List.take_succ_cons, List.take_zero, List.drop_succ_cons, List.drop_zero]
  repeat (quiet_step (first | exact Calls.regrown_of (cbrt_c _ _ _ K2'.out)))
  refine wpQuiet_nil ?_
  clear g19
  intro W20 hw
  replace H := H.regrown hw
  clear hw W18
  have cz := H.at_ 0 rfl
  have fz := H.fz 0 rfl
  go_upto_region 13 with (fail)
  clear cz fz
  refine wp_gen fun W21 hW => ?_
  replace H : CL w [(q9 + 1 + 1, c2), (q9 + 1, c1), (q9, c0), (w.heap.size + 1 + 1 + 1 + 1 + 1, 0), (w.heap.size + 1 + 1 + 1 + 1, 0), (w.heap.size + 1 + 1 + 1, 0), (w.heap.size + 1 + 1, z1), (w.heap.size + 1, y), (w.heap.size, x1)] W21 := by rw [hW]; exact H.set 0 c2 rfl
  clear hW W20
  have g22 := fun d os => cell_regrown (H.at_ 2 rfl) d os
  have g23 := fun d os => cell_regrown (H.at_ 1 rfl) d os
  have g24 := fun d os => cell_regrown (H.at_ 0 rfl) d os
  refine drawn_tail 11 (by kernel_rfl) (by kernel_rfl) (by kernel_rfl) (fun Q hQ => ?_)
  simp only [List.take_succ_cons, List.take_zero, List.drop_succ_cons, List.drop_zero]
  repeat (quiet_step (first | exact Calls.regrown_of (mulK_c _ _ _ _ F3'.out) | exact Calls.regrown_of (subK_c _ _ _ _ F4'.out) | exact Calls.regrown_of (sub_c _ _ _ _ F5'.out) | exact Calls.regrown_of (mulK_c _ _ _ _ F6'.out) | exact Calls.regrown_of (sub_c _ _ _ _ F7'.out) | exact Calls.regrown_of (mulK_c _ _ _ _ F8'.out)))
  refine wpQuiet_nil ?_
  clear g22 g23 g24
  intro W25 hw
  replace H := H.regrown hw
  clear hw W21
  have c6 := H.at_ 5 rfl; have c7 := H.at_ 4 rfl; have c8 := H.at_ 3 rfl; have f6 := H.fz 5 rfl; have f7 := H.fz 4 rfl; have f8 := H.fz 3 rfl
  have hB := (((H.set 5 r0 rfl).set 4 r1 rfl).set 3 r2 rfl).bel
  clear H
  go_wp2
  exact bodyPost_ret (v := .tuple #[fl r0, fl r1, fl r2]) (by simp [results, Try.results16, go_sem, c6, c7, c8]) rfl ⟨rfl, hB⟩
theorem lab16_c (x y z r0 r1 r2 : Nat) (w : World) (h : LabP x y z r0 r1 r2) : Calls Try.prog 16 #[fl x, fl y, fl z] w fun e w' => e = .returned (.tuple #[fl r0, fl r1, fl r2]) ∧ Below w.heap.size w w' := by
  obtain ⟨x1, z1, c0, c1, c2, u0, u1, u2, F1, F2, h0, h1, h2, F3, F4, F5, F6, F7, F8⟩ := h
  rcases h0 with ⟨b0, K0⟩ | ⟨b0, p0, q0, P0, Q0, S0⟩ <;> rcases h1 with ⟨b1, K1⟩ | ⟨b1, p1, q1, P1, Q1, S1⟩ <;> rcases h2 with ⟨b2, K2⟩ | ⟨b2, p2, q2, P2, Q2, S2⟩
  · exact lab_7 _ _ _ _ _ _ _ _ _ _ _ _ _ _  w F1 F2 b0 K0 b1 K1 b2 K2 F3 F4 F5 F6 F7 F8
  · exact lab_3 _ _ _ _ _ _ _ _ _ _ _ _ _ _ p2 q2 w F1 F2 b0 K0 b1 K1 b2 P2 Q2 S2 F3 F4 F5 F6 F7 F8
  · exact lab_5 _ _ _ _ _ _ _ _ _ _ _ _ _ _ p1 q1 w F1 F2 b0 K0 b1 P1 Q1 S1 b2 K2 F3 F4 F5 F6 F7 F8
  · exact lab_1 _ _ _ _ _ _ _ _ _ _ _ _ _ _ p1 q1 p2 q2 w F1 F2 b0 K0 b1 P1 Q1 S1 b2 P2 Q2 S2 F3 F4 F5 F6 F7 F8
  · exact lab_6 _ _ _ _ _ _ _ _ _ _ _ _ _ _ p0 q0 w F1 F2 b0 P0 Q0 S0 b1 K1 b2 K2 F3 F4 F5 F6 F7 F8
  · exact lab_2 _ _ _ _ _ _ _ _ _ _ _ _ _ _ p0 q0 p2 q2 w F1 F2 b0 P0 Q0 S0 b1 K1 b2 P2 Q2 S2 F3 F4 F5 F6 F7 F8
  · exact lab_4 _ _ _ _ _ _ _ _ _ _ _ _ _ _ p0 q0 p1 q1 w F1 F2 b0 P0 Q0 S0 b1 P1 Q1 S1 b2 K2 F3 F4 F5 F6 F7 F8
  · exact lab_0 _ _ _ _ _ _ _ _ _ _ _ _ _ _ p0 q0 p1 q1 p2 q2 w F1 F2 b0 P0 Q0 S0 b1 P1 Q1 S1 b2 P2 Q2 S2 F3 F4 F5 F6 F7 F8
set_option maxRecDepth 100000 in
set_option maxHeartbeats 4000000 in
theorem lab10_c (x y z r0 r1 r2 : Nat) (w : World) (h : LabP x y z r0 r1 r2) : Calls Try.prog 10 #[.float .f64 x, .float .f64 y, .float .f64 z] w fun e w' => e = .returned (.tuple #[.float .f64 r0, .float .f64 r1, .float .f64 r2]) ∧ Below w.heap.size w w' := by
  have st := st_fl
  have C := Lib.hid (fun w => lab16_c x y z r0 r1 r2 w h)
  clear h
  go_enter Try.func10, Try.ntmps10
  go_wp2_with (first | (go_at_call 14; refine (new_c _ _).mono ?_; rintro e w' ⟨rfl, rfl⟩) | (go_at_call 16; (with_reducible refine (C.out _).mono ?_); rintro e w' ⟨rfl, hb⟩; replace hb := (show Below w.heap.size w _ by repeat (first | exact Below.refl _ _ | refine Below.alloc ?_ (by first | omega | (simp <;> omega)) _)).trans (hb.mono (by first | omega | (simp <;> omega)))))
  refine wp_gen fun W hW => ?_
  have q0 : W.cell? ⟨w'.heap.size, 0, none⟩ = some (.float .f64 r0) := by rw [hW]; simp [go_sem]
  have q1 : W.cell? ⟨w'.heap.size + 1, 0, none⟩ = some (.float .f64 r1) := by rw [hW]; simp [go_sem]
  have q2 : W.cell? ⟨w'.heap.size + 1 + 1, 0, none⟩ = some (.float .f64 r2) := by rw [hW]; simp [go_sem]
  have hB : Below w.heap.size w W := by rw [hW]; have := hb.size; repeat (first | exact hb | refine Below.alloc ?_ (by first | omega | (simp <;> omega)) _)
  clear hW
  have g0 := fun d os => cell_regrown q0 d os
  have g1 := fun d os => cell_regrown q1 d os
  have g2 := fun d os => cell_regrown q2 d os
  refine wp_region_quiet_below (by kernel_rfl) (by kernel_rfl) ?_
  repeat (quiet_step (exact Calls.regrown_of (valB_c _ _)))
  refine wpQuiet_nil ?_
  intro W2 hw'
  have hB2 : Below W.heap.size W W2 := by
    obtain ⟨⟨dq, osq⟩, hw''⟩ := hw'
    rw [hw'']; exact below_regrown W dq osq
  clear hw' g0 g1 g2 q0 q1 q2
  go_wp2
  go_ret3
  exact ⟨rfl, hB.trans (hB2.mono hB.size)⟩
end Go.Proofs.Ytpjbhbbhkhfiaaa

/- Contracts of rgb_to_hsl, one for each way through it. -/
import Derived.Test.YtanaamlkiackbaaH1
set_option linter.unusedSimpArgs false
set_option linter.unusedVariables false
namespace Go.Proofs.Ytanaamlkiackbaa
open Go.RowKit Go.Sort
open Flt Ieee
open QTail (ptr)
set_option maxRecDepth 100000 in
theorem eql_fl (x y : Nat) (w : World) : (binOp .eql 38 (.agg #[.float .f64 x]) (.agg #[.float .f64 y])).run Try.prog w = .ok (.bool (FloatKind.f64.format.order x y == some .eq)) w := by
  have hS : Try.prog.underlying 38 = some (.struct (Try.prog.fieldsOf 38)) := by kernel_rfl
  have hp : Try.prog.stoodInHeld 38 = false := by kernel_rfl
  have u := Try.underlying22
  have a3 := Try.isAgg22
  have z3 := Try.sizeOf22
  rw [run_eql_struct, show (10000 : Nat) = 9999 + 1 from rfl, run_equalIn_agg w 9999 38 _ _ hS hp]
  simp only [Program.fieldsOf, Try.underlying38]
  go_simp
  have q : ∀ d : Nat, (Op.equalIn (d + 1) 22 (.float .f64 x) (.float .f64 y)).run Try.prog w = .ok (FloatKind.f64.format.order x y == some .eq) w := fun d => by
    simp [Op.equalIn, run_underlying u]; rfl
  rw [show (9999 : Nat) = 9998 + 1 from rfl, q]
  cases h : (FloatKind.f64.format.order x y == some .eq) <;> rfl
theorem run50 (w : World) : (callFunc 50 #[.int .u64 9221120237041090561]).run Try.prog w = .ok (.value (.float .f64 9221120237041090561)) w := by
  rw [run_callFunc_extern (e := Extern.MathFloatBits.float64frombits) Try.func50 (by kernel_rfl) (by kernel_rfl) (by kernel_rfl) (by kernel_rfl)]
  rfl
theorem nan_c (w : World) : Calls Try.prog 41 #[] w fun e w' => e = .returned (.float .f64 9221120237041090561) ∧ Below w.heap.size w w' := by
  have k := run50
  go_enter Try.func41, Try.ntmps41
  go_wp2
  go_ret
  exact ⟨rfl, Below.refl _ _⟩
set_option maxRecDepth 100000 in
set_option maxHeartbeats 4000000 in
theorem hsl_grey (r g b sm lt d s1 l1 : Nat) (w : World) (F1 : floatBits .add .f64 (minB (minB r g) b) (maxB (maxB r g) b) = some sm) (F2 : floatBits .quo .f64 sm 4611686018427387904 = some lt) (F3 : floatBits .sub .f64 (maxB (maxB r g) b) (minB (minB r g) b) = some d) (F4 : (FloatKind.f64.format.order d 0 != some .eq) = false) (F5 : floatBits .mul .f64 0 4636737291354636288 = some s1) (F6 : floatBits .mul .f64 lt 4636737291354636288 = some l1) :
    Calls Try.prog 25 #[fl r, fl g, fl b] w fun e w' => e = .returned (.tuple #[fl 9221120237041090561, fl s1, fl l1]) ∧ Below w.heap.size w w' := by
  have st := st_fl
  have G1 := Lib.hid F1; have G2 := Lib.hid F2; have G3 := Lib.hid F3; have G4 := Lib.hid F4; have G5 := Lib.hid F5; have G6 := Lib.hid F6
  clear F1 F2 F3 F4 F5 F6
  go_enter Try.func25, Try.ntmps25
  go_upto_region 1 with (fail)
  refine wp_gen fun W0 hW => ?_
  have H : CL w [(w.heap.size + 1 + 1 + 1 + 1 + 1, 0), (w.heap.size + 1 + 1 + 1 + 1, 0), (w.heap.size + 1 + 1 + 1, 0), (w.heap.size + 1 + 1, b), (w.heap.size + 1, g), (w.heap.size, r)] W0 := by rw [hW]; have := ((((((CL.start w).new r 38).new g 38).new b 38).new 0 38).new 0 38).new 0 38; simpa using this
  clear hW
  have g1 := fun d os => cell_regrown (H.at_ 5 rfl) d os
  have g2 := fun d os => cell_regrown (H.at_ 4 rfl) d os
  have g3 := fun d os => cell_regrown (H.at_ 3 rfl) d os
  refine seq_tail 4 (fun Q hQ => ?_)
  simp only [List.take_succ_cons, List.take_zero, List.drop_succ_cons, List.drop_zero]
  repeat (quiet_step (first | exact Calls.regrown_of (max3_c _ _ _ _)))
  refine wpQuiet_nil ?_
  clear g1 g2 g3
  intro W4 hw
  replace H := H.regrown hw
  clear hw W0
  go_upto_region 2 with (fail)
  refine wp_gen fun W5 hW => ?_
  replace H := H.new (maxB (maxB r g) b) 38
  rw [← hW] at H
  clear hW
  generalize W4.heap.size = q9 at *
  clear W4
  have g6 := fun d os => cell_regrown (H.at_ 6 rfl) d os
  have g7 := fun d os => cell_regrown (H.at_ 5 rfl) d os
  have g8 := fun d os => cell_regrown (H.at_ 4 rfl) d os
  refine seq_tail 4 (fun Q hQ => ?_)
  simp only [List.take_succ_cons, List.take_zero, List.drop_succ_cons, List.drop_zero]
  repeat (quiet_step (first | exact Calls.regrown_of (min3_c _ _ _ _)))
  refine wpQuiet_nil ?_
  clear g6 g7 g8
  intro W9 hw
  replace H := H.regrown hw
  clear hw W5
  go_upto_region 3 with (fail)
  refine wp_gen fun W10 hW => ?_
  replace H := H.new (minB (minB r g) b) 38
  rw [← hW] at H
  clear hW
  generalize W9.heap.size = q10 at *
  clear W9
  have e11 := H.at_ 0 rfl
  have e12 := H.at_ 1 rfl
  refine QTail.wp_region_fun (fun i => [(.float .f64 9221120237041090561), fl 9221120237041090561, fl 0, fl (minB (minB r g) b), fl (maxB (maxB r g) b), fl sm, fl lt, undef, undef, undef, undef, undef, undef].getD i undef) [(7, 10, .float .f64 9221120237041090561), (8, 11, .float .f64 0), (9, 12, .float .f64 lt)] (by kernel_rfl) (by kernel_rfl) (by kernel_rfl) ?_ ?_
  · refine ⟨?_, ?_⟩
    · simp only [QTail.kindOf]
      intro vs w' hb hd
      simp [QTail.DepsOK, Region.binds, QTail.isVal] at hd
      simp only [QTail.putA]
      clear hb
      go_wp2_with (refine (nan_c _).mono ?_; rintro e u ⟨rfl, hb1⟩)
      try exact hb1
    refine ⟨?_, ?_⟩
    · simp only [QTail.kindOf]
      intro vs w' hb hd
      simp [QTail.DepsOK, Region.binds, QTail.isVal] at hd
      simp only [QTail.putA]
      clear hb
      go_wp2_with (refine (newB_c _ _).mono ?_; rintro e u ⟨rfl, hb1⟩)
      try exact hb1
    refine ⟨?_, ?_⟩
    · simp only [QTail.kindOf]
      intro vs w' hb hd
      simp [QTail.DepsOK, Region.binds, QTail.isVal] at hd
      simp only [QTail.putA]
      clear hb
      go_wp2_with (refine (newB_c _ _).mono ?_; rintro e u ⟨rfl, hb1⟩)
      try exact hb1
    refine ⟨?_, ?_⟩
    · simp only [QTail.kindOf]
      intro vs w' hb hd
      simp [QTail.DepsOK, Region.binds, QTail.isVal] at hd
      simp only [QTail.putA]
      have e11' := (hb.cell (block_lt_of_cell e11)).trans e11
      have e12' := (hb.cell (block_lt_of_cell e12)).trans e12
      clear hb
      go_wp2
      exact Below.refl _ _
    refine ⟨?_, ?_⟩
    · simp only [QTail.kindOf]
      intro vs w' hb hd
      simp [QTail.DepsOK, Region.binds, QTail.isVal] at hd
      simp only [QTail.putA]
      have e11' := (hb.cell (block_lt_of_cell e11)).trans e11
      have e12' := (hb.cell (block_lt_of_cell e12)).trans e12
      clear hb
      go_wp2
      exact Below.refl _ _
    refine ⟨?_, ?_⟩
    · simp only [QTail.kindOf]
      intro vs w' hb hd
      simp [QTail.DepsOK, Region.binds, QTail.isVal] at hd
      simp only [QTail.putA]
      clear hb
      go_wp2_with (refine (add_c _ _ _ _ G1.out).mono ?_; rintro e u ⟨rfl, hb1⟩)
      try exact hb1
    refine ⟨?_, ?_⟩
    · simp only [QTail.kindOf]
      intro vs w' hb hd
      simp [QTail.DepsOK, Region.binds, QTail.isVal] at hd
      simp only [QTail.putA]
      clear hb
      go_wp2_with (refine (divK_c _ _ _ _ G2.out).mono ?_; rintro e u ⟨rfl, hb1⟩)
      try exact hb1
    refine ⟨?_, ?_⟩
    · simp only [QTail.kindOf]
      intro vs w'
      simp only [QTail.putA]
      go_wp2
      exact ⟨_, _, rfl⟩
    refine ⟨?_, ?_⟩
    · simp only [QTail.kindOf]
      intro vs w'
      simp only [QTail.putA]
      go_wp2
      exact ⟨_, _, rfl⟩
    refine ⟨?_, ?_⟩
    · simp only [QTail.kindOf]
      intro vs w'
      simp only [QTail.putA]
      go_wp2
      exact ⟨_, _, rfl⟩
    refine ⟨?_, ?_⟩
    · simp only [QTail.kindOf]
      intro vs w' b x hb hd hc hf
      simp [QTail.DepsOK, Region.binds, QTail.isVal] at hd
      simp only [QTail.putA]
      go_wp2
    refine ⟨?_, ?_⟩
    · simp only [QTail.kindOf]
      intro vs w' b x hb hd hc hf
      simp [QTail.DepsOK, Region.binds, QTail.isVal] at hd
      simp only [QTail.putA]
      go_wp2
    refine ⟨?_, ?_⟩
    · simp only [QTail.kindOf]
      intro vs w' b x hb hd hc hf
      simp [QTail.DepsOK, Region.binds, QTail.isVal] at hd
      simp only [QTail.putA]
      go_wp2
    trivial
  · intro bk W13 hb hn hne
    obtain ⟨s0, f0, c0⟩ := hn (7, 10, .float .f64 9221120237041090561) (by simp)
    obtain ⟨s1, f1, c1⟩ := hn (8, 11, .float .f64 0) (by simp)
    have d01 := hne (7, 10, .float .f64 9221120237041090561) (by simp) (8, 11, .float .f64 0) (by simp) (by simp)
    obtain ⟨s2, f2, c2⟩ := hn (9, 12, .float .f64 lt) (by simp)
    have d02 := hne (7, 10, .float .f64 9221120237041090561) (by simp) (9, 12, .float .f64 lt) (by simp) (by simp)
    have d12 := hne (8, 11, .float .f64 0) (by simp) (9, 12, .float .f64 lt) (by simp) (by simp)
    simp only [] at s0 f0 c0 s1 f1 c1 s2 f2 c2 d01 d02 d12
    clear e11 e12 hn hne
    simp only [QTail.putA, QTail.fv, QTail.isVal]
    generalize bk 7 = q11 at *
    generalize bk 8 = q12 at *
    generalize bk 9 = q13 at *
    have L := H.lt
    have Z := H.bel.size
    replace H := H.add hb s0 c0 f0
    replace H := H.add2 (Nat.le_trans Z s1) (by intro p hp; simp only [List.map_cons, List.mem_cons] at hp L; rcases hp with rfl | hp; (exact d01); (have := L p (by simpa using hp); omega)) c1 f1
    replace H := H.add2 (Nat.le_trans Z s2) (by intro p hp; simp only [List.map_cons, List.mem_cons] at hp L; rcases hp with rfl | rfl | hp; (exact d12); (exact d02); (have := L p (by simpa using hp); omega)) c2 f2
    clear hb L Z s0 f0 c0 s1 f1 c1 s2 f2 c2  d01 d02 d12
    clear W10
    go_upto_region 4 with (fail)
    have g14 := fun d os => cell_regrown (H.at_ 4 rfl) d os
    have g15 := fun d os => cell_regrown (H.at_ 3 rfl) d os
    refine seq_tail 3 (fun Q hQ => ?_)
    simp only [List.take_succ_cons, List.take_zero, List.drop_succ_cons, List.drop_zero]
    repeat (quiet_step (first | exact Calls.regrown_of (sub_c _ _ _ _ G3.out)))
    refine wpQuiet_nil ?_
    clear g14 g15
    intro W16 hw
    replace H := H.regrown hw
    clear hw W13
    go_upto_region 5 with (fail)
    refine wp_gen fun W17 hW => ?_
    replace H := H.new d 38
    rw [← hW] at H
    clear hW
    generalize W16.heap.size = q14 at *
    clear W16
    have g18 := fun d os => cell_regrown (H.at_ 0 rfl) d os
    refine seq_tail 2 (fun Q hQ => ?_)
    simp only [List.take_succ_cons, List.take_zero, List.drop_succ_cons, List.drop_zero]
    repeat (quiet_step (first | exact Calls.regrown_of (valB_c _ _)))
    refine wpQuiet_nil ?_
    clear g18
    intro W19 hw
    replace H := H.regrown hw
    clear hw W17
    have t1 := G4.out
    go_upto_region 19 with (fail)
    clear t1
    have g20 := fun d os => cell_regrown (H.at_ 3 rfl) d os
    have g21 := fun d os => cell_regrown (H.at_ 2 rfl) d os
    have g22 := fun d os => cell_regrown (H.at_ 1 rfl) d os
    refine drawn_tail 5 (by kernel_rfl) (by kernel_rfl) (by kernel_rfl) (fun Q hQ => ?_)
    simp only [List.take_succ_cons, List.take_zero, List.drop_succ_cons, List.drop_zero]
    repeat (quiet_step (first | exact Calls.regrown_of (mulK_c _ _ _ _ G5.out) | exact Calls.regrown_of (mulK_c _ _ _ _ G6.out)))
    refine wpQuiet_nil ?_
    clear g20 g21 g22
    intro W23 hw
    replace H := H.regrown hw
    clear hw W19
    have d0 := H.at_ 8 rfl; have f0 := H.fz 8 rfl
    have d1 := H.at_ 7 rfl; have f1 := H.fz 7 rfl
    have d2 := H.at_ 6 rfl; have f2 := H.fz 6 rfl
    have hB := (((H.set 8 9221120237041090561 rfl).set 7 s1 rfl).set 6 l1 rfl).bel
    clear H
    go_wp2
    exact bodyPost_ret (v := .tuple #[fl 9221120237041090561, fl s1, fl l1]) (by simp [results, Try.results25, go_sem, d0, d1, d2]) rfl ⟨rfl, hB⟩
set_option maxRecDepth 100000 in
set_option maxHeartbeats 4000000 in
theorem hsl_red (r g b sm lt d a2 x1 sat y1 y2 h1 s1 l1 : Nat) (w : World) (F1 : floatBits .add .f64 (minB (minB r g) b) (maxB (maxB r g) b) = some sm) (F2 : floatBits .quo .f64 sm 4611686018427387904 = some lt) (F3 : floatBits .sub .f64 (maxB (maxB r g) b) (minB (minB r g) b) = some d) (F4 : (FloatKind.f64.format.order d 0 != some .eq) = true) (F5 : floatBits .add .f64 (negB lt) 4607182418800017408 = some a2) (F6 : (FloatKind.f64.format.order (minB lt a2) 0 != some .eq) = true) (F7 : floatBits .sub .f64 (maxB (maxB r g) b) lt = some x1) (F8 : floatBits .quo .f64 x1 (minB lt a2) = some sat) (F9 : (FloatKind.f64.format.order (maxB (maxB r g) b) r == some .eq) = true) (F10 : floatBits .sub .f64 g b = some y1) (F11 : floatBits .quo .f64 y1 d = some y2) (F12 : (FloatKind.f64.format.order g b == some .lt) = false) (F13 : floatBits .mul .f64 y2 4633641066610819072 = some h1) (F14 : floatBits .mul .f64 sat 4636737291354636288 = some s1) (F15 : floatBits .mul .f64 lt 4636737291354636288 = some l1) :
    Calls Try.prog 25 #[fl r, fl g, fl b] w fun e w' => e = .returned (.tuple #[fl h1, fl s1, fl l1]) ∧ Below w.heap.size w w' := by
  have st := st_fl
  have G1 := Lib.hid F1; have G2 := Lib.hid F2; have G3 := Lib.hid F3; have G4 := Lib.hid F4; have G5 := Lib.hid F5; have G6 := Lib.hid F6; have G7 := Lib.hid F7; have G8 := Lib.hid F8; have G9 := Lib.hid F9; have G10 := Lib.hid F10; have G11 := Lib.hid F11; have G12 := Lib.hid F12; have G13 := Lib.hid F13; have G14 := Lib.hid F14; have G15 := Lib.hid F15
  clear F1 F2 F3 F4 F5 F6 F7 F8 F9 F10 F11 F12 F13 F14 F15
  go_enter Try.func25, Try.ntmps25
  go_upto_region 1 with (fail)
  refine wp_gen fun W0 hW => ?_
  have H : CL w [(w.heap.size + 1 + 1 + 1 + 1 + 1, 0), (w.heap.size + 1 + 1 + 1 + 1, 0), (w.heap.size + 1 + 1 + 1, 0), (w.heap.size + 1 + 1, b), (w.heap.size + 1, g), (w.heap.size, r)] W0 := by rw [hW]; have := ((((((CL.start w).new r 38).new g 38).new b 38).new 0 38).new 0 38).new 0 38; simpa using this
  clear hW
  have g1 := fun d os => cell_regrown (H.at_ 5 rfl) d os
  have g2 := fun d os => cell_regrown (H.at_ 4 rfl) d os
  have g3 := fun d os => cell_regrown (H.at_ 3 rfl) d os
  refine seq_tail 4 (fun Q hQ => ?_)
  simp only [List.take_succ_cons, List.take_zero, List.drop_succ_cons, List.drop_zero]
  repeat (quiet_step (first | exact Calls.regrown_of (max3_c _ _ _ _)))
  refine wpQuiet_nil ?_
  clear g1 g2 g3
  intro W4 hw
  replace H := H.regrown hw
  clear hw W0
  go_upto_region 2 with (fail)
  refine wp_gen fun W5 hW => ?_
  replace H := H.new (maxB (maxB r g) b) 38
  rw [← hW] at H
  clear hW
  generalize W4.heap.size = q9 at *
  clear W4
  have g6 := fun d os => cell_regrown (H.at_ 6 rfl) d os
  have g7 := fun d os => cell_regrown (H.at_ 5 rfl) d os
  have g8 := fun d os => cell_regrown (H.at_ 4 rfl) d os
  refine seq_tail 4 (fun Q hQ => ?_)
  simp only [List.take_succ_cons, List.take_zero, List.drop_succ_cons, List.drop_zero]
  repeat (quiet_step (first | exact Calls.regrown_of (min3_c _ _ _ _)))
  refine wpQuiet_nil ?_
  clear g6 g7 g8
  intro W9 hw
  replace H := H.regrown hw
  clear hw W5
  go_upto_region 3 with (fail)
  refine wp_gen fun W10 hW => ?_
  replace H := H.new (minB (minB r g) b) 38
  rw [← hW] at H
  clear hW
  generalize W9.heap.size = q10 at *
  clear W9
  have e11 := H.at_ 0 rfl
  have e12 := H.at_ 1 rfl
  refine QTail.wp_region_fun (fun i => [(.float .f64 9221120237041090561), fl 9221120237041090561, fl 0, fl (minB (minB r g) b), fl (maxB (maxB r g) b), fl sm, fl lt, undef, undef, undef, undef, undef, undef].getD i undef) [(7, 10, .float .f64 9221120237041090561), (8, 11, .float .f64 0), (9, 12, .float .f64 lt)] (by kernel_rfl) (by kernel_rfl) (by kernel_rfl) ?_ ?_
  · refine ⟨?_, ?_⟩
    · simp only [QTail.kindOf]
      intro vs w' hb hd
      simp [QTail.DepsOK, Region.binds, QTail.isVal] at hd
      simp only [QTail.putA]
      clear hb
      go_wp2_with (refine (nan_c _).mono ?_; rintro e u ⟨rfl, hb1⟩)
      try exact hb1
    refine ⟨?_, ?_⟩
    · simp only [QTail.kindOf]
      intro vs w' hb hd
      simp [QTail.DepsOK, Region.binds, QTail.isVal] at hd
      simp only [QTail.putA]
      clear hb
      go_wp2_with (refine (newB_c _ _).mono ?_; rintro e u ⟨rfl, hb1⟩)
      try exact hb1
    refine ⟨?_, ?_⟩
    · simp only [QTail.kindOf]
      intro vs w' hb hd
      simp [QTail.DepsOK, Region.binds, QTail.isVal] at hd
      simp only [QTail.putA]
      clear hb
      go_wp2_with (refine (newB_c _ _).mono ?_; rintro e u ⟨rfl, hb1⟩)
      try exact hb1
    refine ⟨?_, ?_⟩
    · simp only [QTail.kindOf]
      intro vs w' hb hd
      simp [QTail.DepsOK, Region.binds, QTail.isVal] at hd
      simp only [QTail.putA]
      have e11' := (hb.cell (block_lt_of_cell e11)).trans e11
      have e12' := (hb.cell (block_lt_of_cell e12)).trans e12
      clear hb
      go_wp2
      exact Below.refl _ _
    refine ⟨?_, ?_⟩
    · simp only [QTail.kindOf]
      intro vs w' hb hd
      simp [QTail.DepsOK, Region.binds, QTail.isVal] at hd
      simp only [QTail.putA]
      have e11' := (hb.cell (block_lt_of_cell e11)).trans e11
      have e12' := (hb.cell (block_lt_of_cell e12)).trans e12
      clear hb
      go_wp2
      exact Below.refl _ _
    refine ⟨?_, ?_⟩
    · simp only [QTail.kindOf]
      intro vs w' hb hd
      simp [QTail.DepsOK, Region.binds, QTail.isVal] at hd
      simp only [QTail.putA]
      clear hb
      go_wp2_with (refine (add_c _ _ _ _ G1.out).mono ?_; rintro e u ⟨rfl, hb1⟩)
      try exact hb1
    refine ⟨?_, ?_⟩
    · simp only [QTail.kindOf]
      intro vs w' hb hd
      simp [QTail.DepsOK, Region.binds, QTail.isVal] at hd
      simp only [QTail.putA]
      clear hb
      go_wp2_with (refine (divK_c _ _ _ _ G2.out).mono ?_; rintro e u ⟨rfl, hb1⟩)
      try exact hb1
    refine ⟨?_, ?_⟩
    · simp only [QTail.kindOf]
      intro vs w'
      simp only [QTail.putA]
      go_wp2
      exact ⟨_, _, rfl⟩
    refine ⟨?_, ?_⟩
    · simp only [QTail.kindOf]
      intro vs w'
      simp only [QTail.putA]
      go_wp2
      exact ⟨_, _, rfl⟩
    refine ⟨?_, ?_⟩
    · simp only [QTail.kindOf]
      intro vs w'
      simp only [QTail.putA]
      go_wp2
      exact ⟨_, _, rfl⟩
    refine ⟨?_, ?_⟩
    · simp only [QTail.kindOf]
      intro vs w' b x hb hd hc hf
      simp [QTail.DepsOK, Region.binds, QTail.isVal] at hd
      simp only [QTail.putA]
      go_wp2
    refine ⟨?_, ?_⟩
    · simp only [QTail.kindOf]
      intro vs w' b x hb hd hc hf
      simp [QTail.DepsOK, Region.binds, QTail.isVal] at hd
      simp only [QTail.putA]
      go_wp2
    refine ⟨?_, ?_⟩
    · simp only [QTail.kindOf]
      intro vs w' b x hb hd hc hf
      simp [QTail.DepsOK, Region.binds, QTail.isVal] at hd
      simp only [QTail.putA]
      go_wp2
    trivial
  · intro bk W13 hb hn hne
    obtain ⟨s0, f0, c0⟩ := hn (7, 10, .float .f64 9221120237041090561) (by simp)
    obtain ⟨s1, f1, c1⟩ := hn (8, 11, .float .f64 0) (by simp)
    have d01 := hne (7, 10, .float .f64 9221120237041090561) (by simp) (8, 11, .float .f64 0) (by simp) (by simp)
    obtain ⟨s2, f2, c2⟩ := hn (9, 12, .float .f64 lt) (by simp)
    have d02 := hne (7, 10, .float .f64 9221120237041090561) (by simp) (9, 12, .float .f64 lt) (by simp) (by simp)
    have d12 := hne (8, 11, .float .f64 0) (by simp) (9, 12, .float .f64 lt) (by simp) (by simp)
    simp only [] at s0 f0 c0 s1 f1 c1 s2 f2 c2 d01 d02 d12
    clear e11 e12 hn hne
    simp only [QTail.putA, QTail.fv, QTail.isVal]
    generalize bk 7 = q11 at *
    generalize bk 8 = q12 at *
    generalize bk 9 = q13 at *
    have L := H.lt
    have Z := H.bel.size
    replace H := H.add hb s0 c0 f0
    replace H := H.add2 (Nat.le_trans Z s1) (by intro p hp; simp only [List.map_cons, List.mem_cons] at hp L; rcases hp with rfl | hp; (exact d01); (have := L p (by simpa using hp); omega)) c1 f1
    replace H := H.add2 (Nat.le_trans Z s2) (by intro p hp; simp only [List.map_cons, List.mem_cons] at hp L; rcases hp with rfl | rfl | hp; (exact d12); (exact d02); (have := L p (by simpa using hp); omega)) c2 f2
    clear hb L Z s0 f0 c0 s1 f1 c1 s2 f2 c2  d01 d02 d12
    clear W10
    go_upto_region 4 with (fail)
    have g14 := fun d os => cell_regrown (H.at_ 4 rfl) d os
    have g15 := fun d os => cell_regrown (H.at_ 3 rfl) d os
    refine seq_tail 3 (fun Q hQ => ?_)
    simp only [List.take_succ_cons, List.take_zero, List.drop_succ_cons, List.drop_zero]
    repeat (quiet_step (first | exact Calls.regrown_of (sub_c _ _ _ _ G3.out)))
    refine wpQuiet_nil ?_
    clear g14 g15
    intro W16 hw
    replace H := H.regrown hw
    clear hw W13
    go_upto_region 5 with (fail)
    refine wp_gen fun W17 hW => ?_
    replace H := H.new d 38
    rw [← hW] at H
    clear hW
    generalize W16.heap.size = q14 at *
    clear W16
    have g18 := fun d os => cell_regrown (H.at_ 0 rfl) d os
    refine seq_tail 2 (fun Q hQ => ?_)
    simp only [List.take_succ_cons, List.take_zero, List.drop_succ_cons, List.drop_zero]
    repeat (quiet_step (first | exact Calls.regrown_of (valB_c _ _)))
    refine wpQuiet_nil ?_
    clear g18
    intro W19 hw
    replace H := H.regrown hw
    clear hw W17
    have t1 := G4.out
    go_upto_region 6 with (fail)
    clear t1
    have e20 := H.at_ 1 rfl
    refine QTail.wp_region_fun (fun i => [fl lt, fl lt, fl (negB lt), fl a2, fl (minB lt a2), undef, undef].getD i undef) [(5, 6, .float .f64 (minB lt a2))] (by kernel_rfl) (by kernel_rfl) (by kernel_rfl) ?_ ?_
    · refine ⟨?_, ?_⟩
      · simp only [QTail.kindOf]
        intro vs w' hb hd
        simp [QTail.DepsOK, Region.binds, QTail.isVal] at hd
        simp only [QTail.putA]
        have e20' := (hb.cell (block_lt_of_cell e20)).trans e20
        clear hb
        go_wp2
        exact Below.refl _ _
      refine ⟨?_, ?_⟩
      · simp only [QTail.kindOf]
        intro vs w' hb hd
        simp [QTail.DepsOK, Region.binds, QTail.isVal] at hd
        simp only [QTail.putA]
        have e20' := (hb.cell (block_lt_of_cell e20)).trans e20
        clear hb
        go_wp2
        exact Below.refl _ _
      refine ⟨?_, ?_⟩
      · simp only [QTail.kindOf]
        intro vs w' hb hd
        simp [QTail.DepsOK, Region.binds, QTail.isVal] at hd
        simp only [QTail.putA]
        clear hb
        go_wp2_with (refine (neg_c _ _).mono ?_; rintro e u ⟨rfl, hb1⟩)
        try exact hb1
      refine ⟨?_, ?_⟩
      · simp only [QTail.kindOf]
        intro vs w' hb hd
        simp [QTail.DepsOK, Region.binds, QTail.isVal] at hd
        simp only [QTail.putA]
        clear hb
        go_wp2_with (refine (addK_c _ _ _ _ G5.out).mono ?_; rintro e u ⟨rfl, hb1⟩)
        try exact hb1
      refine ⟨?_, ?_⟩
      · simp only [QTail.kindOf]
        intro vs w' hb hd
        simp [QTail.DepsOK, Region.binds, QTail.isVal] at hd
        simp only [QTail.putA]
        clear hb
        go_wp2_with (refine (min2_c _ _ _).mono ?_; rintro e u ⟨rfl, hb1⟩)
        try exact hb1
      refine ⟨?_, ?_⟩
      · simp only [QTail.kindOf]
        intro vs w'
        simp only [QTail.putA]
        go_wp2
        exact ⟨_, _, rfl⟩
      refine ⟨?_, ?_⟩
      · simp only [QTail.kindOf]
        intro vs w' b x hb hd hc hf
        simp [QTail.DepsOK, Region.binds, QTail.isVal] at hd
        simp only [QTail.putA]
        go_wp2
      trivial
    · intro bk W21 hb hn hne
      obtain ⟨s0, f0, c0⟩ := hn (5, 6, .float .f64 (minB lt a2)) (by simp)
      simp only [] at s0 f0 c0
      clear e20 hn hne
      simp only [QTail.putA, QTail.fv, QTail.isVal]
      generalize bk 5 = q15 at *
      have L := H.lt
      have Z := H.bel.size
      replace H := H.add hb s0 c0 f0
      clear hb L Z s0 f0 c0 
      clear W19
      go_upto_region 7 with (fail)
      have g22 := fun d os => cell_regrown (H.at_ 0 rfl) d os
      refine seq_tail 2 (fun Q hQ => ?_)
      simp only [List.take_succ_cons, List.take_zero, List.drop_succ_cons, List.drop_zero]
      repeat (quiet_step (first | exact Calls.regrown_of (valB_c _ _)))
      refine wpQuiet_nil ?_
      clear g22
      intro W23 hw
      replace H := H.regrown hw
      clear hw W21
      have t1 := G6.out
      go_upto_region 8 with (fail)
      clear t1
      have g24 := fun d os => cell_regrown (H.at_ 6 rfl) d os
      have g25 := fun d os => cell_regrown (H.at_ 2 rfl) d os
      have g26 := fun d os => cell_regrown (H.at_ 0 rfl) d os
      refine drawn_tail 5 (by kernel_rfl) (by kernel_rfl) (by kernel_rfl) (fun Q hQ => ?_)
      simp only [List.take_succ_cons, List.take_zero, List.drop_succ_cons, List.drop_zero]
      repeat (quiet_step (first | exact Calls.regrown_of (sub_c _ _ _ _ G7.out) | exact Calls.regrown_of (div_c _ _ _ _ G8.out)))
      refine wpQuiet_nil ?_
      clear g24 g25 g26
      intro W27 hw
      replace H := H.regrown hw
      clear hw W23
      have cz := H.at_ 3 rfl
      have fz := H.fz 3 rfl
      go_upto_region 9 with (fail)
      clear cz fz
      refine wp_gen fun W28 hW => ?_
      replace H : CL w [(q15, (minB lt a2)), (q14, d), (q13, lt), (q12, sat), (q11, 9221120237041090561), (q10, (minB (minB r g) b)), (q9, (maxB (maxB r g) b)), (w.heap.size + 1 + 1 + 1 + 1 + 1, 0), (w.heap.size + 1 + 1 + 1 + 1, 0), (w.heap.size + 1 + 1 + 1, 0), (w.heap.size + 1 + 1, b), (w.heap.size + 1, g), (w.heap.size, r)] W28 := by rw [hW]; exact H.set 3 sat rfl
      clear hW W27
      have ca := H.at_ 6 rfl; have cr := H.at_ 12 rfl; have cg := H.at_ 11 rfl; have cb := H.at_ 10 rfl
      have ke := eql_fl
      have t1 := G9.out
      go_upto_region 11 with (fail)
      clear t1 ca cr cg cb ke
      have g29 := fun d os => cell_regrown (H.at_ 11 rfl) d os
      have g30 := fun d os => cell_regrown (H.at_ 10 rfl) d os
      have g31 := fun d os => cell_regrown (H.at_ 1 rfl) d os
      refine drawn_tail 5 (by kernel_rfl) (by kernel_rfl) (by kernel_rfl) (fun Q hQ => ?_)
      simp only [List.take_succ_cons, List.take_zero, List.drop_succ_cons, List.drop_zero]
      repeat (quiet_step (first | exact Calls.regrown_of (sub_c _ _ _ _ G10.out) | exact Calls.regrown_of (div_c _ _ _ _ G11.out)))
      refine wpQuiet_nil ?_
      clear g29 g30 g31
      intro W32 hw
      replace H := H.regrown hw
      clear hw W28
      have cz := H.at_ 4 rfl
      have fz := H.fz 4 rfl
      go_upto_region 12 with (fail)
      clear cz fz
      refine wp_gen fun W33 hW => ?_
      replace H : CL w [(q15, (minB lt a2)), (q14, d), (q13, lt), (q12, sat), (q11, y2), (q10, (minB (minB r g) b)), (q9, (maxB (maxB r g) b)), (w.heap.size + 1 + 1 + 1 + 1 + 1, 0), (w.heap.size + 1 + 1 + 1 + 1, 0), (w.heap.size + 1 + 1 + 1, 0), (w.heap.size + 1 + 1, b), (w.heap.size + 1, g), (w.heap.size, r)] W33 := by rw [hW]; exact H.set 4 y2 rfl
      clear hW W32
      have g34 := fun d os => cell_regrown (H.at_ 11 rfl) d os
      have g35 := fun d os => cell_regrown (H.at_ 10 rfl) d os
      have t1 := G12.out
      refine wp_region_quiet_below (by kernel_rfl) (by kernel_rfl) ?_
      repeat (quiet_step (exact Calls.regrown_of (valB_c _ _)))
      refine wpQuiet_nil ?_
      clear g34 g35
      intro W36 hw
      replace H := H.regrown hw
      clear hw W33
      go_upto_region 18 with (fail)
      clear t1
      have g37 := fun d os => cell_regrown (H.at_ 4 rfl) d os
      refine seq_tail 2 (fun Q hQ => ?_)
      simp only [List.take_succ_cons, List.take_zero, List.drop_succ_cons, List.drop_zero]
      repeat (quiet_step (first | exact Calls.regrown_of (mulK_c _ _ _ _ G13.out)))
      refine wpQuiet_nil ?_
      clear g37
      intro W38 hw
      replace H := H.regrown hw
      clear hw W36
      have cz := H.at_ 4 rfl
      have fz := H.fz 4 rfl
      go_upto_region 19 with (fail)
      clear cz fz
      refine wp_gen fun W39 hW => ?_
      replace H : CL w [(q15, (minB lt a2)), (q14, d), (q13, lt), (q12, sat), (q11, h1), (q10, (minB (minB r g) b)), (q9, (maxB (maxB r g) b)), (w.heap.size + 1 + 1 + 1 + 1 + 1, 0), (w.heap.size + 1 + 1 + 1 + 1, 0), (w.heap.size + 1 + 1 + 1, 0), (w.heap.size + 1 + 1, b), (w.heap.size + 1, g), (w.heap.size, r)] W39 := by rw [hW]; exact H.set 4 h1 rfl
      clear hW W38
      have g40 := fun d os => cell_regrown (H.at_ 4 rfl) d os
      have g41 := fun d os => cell_regrown (H.at_ 3 rfl) d os
      have g42 := fun d os => cell_regrown (H.at_ 2 rfl) d os
      refine drawn_tail 5 (by kernel_rfl) (by kernel_rfl) (by kernel_rfl) (fun Q hQ => ?_)
      simp only [List.take_succ_cons, List.take_zero, List.drop_succ_cons, List.drop_zero]
      repeat (quiet_step (first | exact Calls.regrown_of (mulK_c _ _ _ _ G14.out) | exact Calls.regrown_of (mulK_c _ _ _ _ G15.out)))
      refine wpQuiet_nil ?_
      clear g40 g41 g42
      intro W43 hw
      replace H := H.regrown hw
      clear hw W39
      have d0 := H.at_ 9 rfl; have f0 := H.fz 9 rfl
      have d1 := H.at_ 8 rfl; have f1 := H.fz 8 rfl
      have d2 := H.at_ 7 rfl; have f2 := H.fz 7 rfl
      have hB := (((H.set 9 h1 rfl).set 8 s1 rfl).set 7 l1 rfl).bel
      clear H
      go_wp2
      exact bodyPost_ret (v := .tuple #[fl h1, fl s1, fl l1]) (by simp [results, Try.results25, go_sem, d0, d1, d2]) rfl ⟨rfl, hB⟩
set_option maxRecDepth 100000 in
set_option maxHeartbeats 4000000 in
theorem hsl_redlt (r g b sm lt d a2 x1 sat y1 y2 h h1 s1 l1 : Nat) (w : World) (F1 : floatBits .add .f64 (minB (minB r g) b) (maxB (maxB r g) b) = some sm) (F2 : floatBits .quo .f64 sm 4611686018427387904 = some lt) (F3 : floatBits .sub .f64 (maxB (maxB r g) b) (minB (minB r g) b) = some d) (F4 : (FloatKind.f64.format.order d 0 != some .eq) = true) (F5 : floatBits .add .f64 (negB lt) 4607182418800017408 = some a2) (F6 : (FloatKind.f64.format.order (minB lt a2) 0 != some .eq) = true) (F7 : floatBits .sub .f64 (maxB (maxB r g) b) lt = some x1) (F8 : floatBits .quo .f64 x1 (minB lt a2) = some sat) (F9 : (FloatKind.f64.format.order (maxB (maxB r g) b) r == some .eq) = true) (F10 : floatBits .sub .f64 g b = some y1) (F11 : floatBits .quo .f64 y1 d = some y2) (F12 : (FloatKind.f64.format.order g b == some .lt) = true) (F13 : floatBits .add .f64 y2 4618441417868443648 = some h) (F14 : floatBits .mul .f64 h 4633641066610819072 = some h1) (F15 : floatBits .mul .f64 sat 4636737291354636288 = some s1) (F16 : floatBits .mul .f64 lt 4636737291354636288 = some l1) :
    Calls Try.prog 25 #[fl r, fl g, fl b] w fun e w' => e = .returned (.tuple #[fl h1, fl s1, fl l1]) ∧ Below w.heap.size w w' := by
  have st := st_fl
  have G1 := Lib.hid F1; have G2 := Lib.hid F2; have G3 := Lib.hid F3; have G4 := Lib.hid F4; have G5 := Lib.hid F5; have G6 := Lib.hid F6; have G7 := Lib.hid F7; have G8 := Lib.hid F8; have G9 := Lib.hid F9; have G10 := Lib.hid F10; have G11 := Lib.hid F11; have G12 := Lib.hid F12; have G13 := Lib.hid F13; have G14 := Lib.hid F14; have G15 := Lib.hid F15; have G16 := Lib.hid F16
  clear F1 F2 F3 F4 F5 F6 F7 F8 F9 F10 F11 F12 F13 F14 F15 F16
  go_enter Try.func25, Try.ntmps25
  go_upto_region 1 with (fail)
  refine wp_gen fun W0 hW => ?_
  have H : CL w [(w.heap.size + 1 + 1 + 1 + 1 + 1, 0), (w.heap.size + 1 + 1 + 1 + 1, 0), (w.heap.size + 1 + 1 + 1, 0), (w.heap.size + 1 + 1, b), (w.heap.size + 1, g), (w.heap.size, r)] W0 := by rw [hW]; have := ((((((CL.start w).new r 38).new g 38).new b 38).new 0 38).new 0 38).new 0 38; simpa using this
  clear hW
  have g1 := fun d os => cell_regrown (H.at_ 5 rfl) d os
  have g2 := fun d os => cell_regrown (H.at_ 4 rfl) d os
  have g3 := fun d os => cell_regrown (H.at_ 3 rfl) d os
  refine seq_tail 4 (fun Q hQ => ?_)
  simp only [List.take_succ_cons, List.take_zero, List.drop_succ_cons, List.drop_zero]
  repeat (quiet_step (first | exact Calls.regrown_of (max3_c _ _ _ _)))
  refine wpQuiet_nil ?_
  clear g1 g2 g3
  intro W4 hw
  replace H := H.regrown hw
  clear hw W0
  go_upto_region 2 with (fail)
  refine wp_gen fun W5 hW => ?_
  replace H := H.new (maxB (maxB r g) b) 38
  rw [← hW] at H
  clear hW
  generalize W4.heap.size = q9 at *
  clear W4
  have g6 := fun d os => cell_regrown (H.at_ 6 rfl) d os
  have g7 := fun d os => cell_regrown (H.at_ 5 rfl) d os
  have g8 := fun d os => cell_regrown (H.at_ 4 rfl) d os
  refine seq_tail 4 (fun Q hQ => ?_)
  simp only [List.take_succ_cons, List.take_zero, List.drop_succ_cons, List.drop_zero]
  repeat (quiet_step (first | exact Calls.regrown_of (min3_c _ _ _ _)))
  refine wpQuiet_nil ?_
  clear g6 g7 g8
  intro W9 hw
  replace H := H.regrown hw
  clear hw W5
  go_upto_region 3 with (fail)
  refine wp_gen fun W10 hW => ?_
  replace H := H.new (minB (minB r g) b) 38
  rw [← hW] at H
  clear hW
  generalize W9.heap.size = q10 at *
  clear W9
  have e11 := H.at_ 0 rfl
  have e12 := H.at_ 1 rfl
  refine QTail.wp_region_fun (fun i => [(.float .f64 9221120237041090561), fl 9221120237041090561, fl 0, fl (minB (minB r g) b), fl (maxB (maxB r g) b), fl sm, fl lt, undef, undef, undef, undef, undef, undef].getD i undef) [(7, 10, .float .f64 9221120237041090561), (8, 11, .float .f64 0), (9, 12, .float .f64 lt)] (by kernel_rfl) (by kernel_rfl) (by kernel_rfl) ?_ ?_
  · refine ⟨?_, ?_⟩
    · simp only [QTail.kindOf]
      intro vs w' hb hd
      simp [QTail.DepsOK, Region.binds, QTail.isVal] at hd
      simp only [QTail.putA]
      clear hb
      go_wp2_with (refine (nan_c _).mono ?_; rintro e u ⟨rfl, hb1⟩)
      try exact hb1
    refine ⟨?_, ?_⟩
    · simp only [QTail.kindOf]
      intro vs w' hb hd
      simp [QTail.DepsOK, Region.binds, QTail.isVal] at hd
      simp only [QTail.putA]
      clear hb
      go_wp2_with (refine (newB_c _ _).mono ?_; rintro e u ⟨rfl, hb1⟩)
      try exact hb1
    refine ⟨?_, ?_⟩
    · simp only [QTail.kindOf]
      intro vs w' hb hd
      simp [QTail.DepsOK, Region.binds, QTail.isVal] at hd
      simp only [QTail.putA]
      clear hb
      go_wp2_with (refine (newB_c _ _).mono ?_; rintro e u ⟨rfl, hb1⟩)
      try exact hb1
    refine ⟨?_, ?_⟩
    · simp only [QTail.kindOf]
      intro vs w' hb hd
      simp [QTail.DepsOK, Region.binds, QTail.isVal] at hd
      simp only [QTail.putA]
      have e11' := (hb.cell (block_lt_of_cell e11)).trans e11
      have e12' := (hb.cell (block_lt_of_cell e12)).trans e12
      clear hb
      go_wp2
      exact Below.refl _ _
    refine ⟨?_, ?_⟩
    · simp only [QTail.kindOf]
      intro vs w' hb hd
      simp [QTail.DepsOK, Region.binds, QTail.isVal] at hd
      simp only [QTail.putA]
      have e11' := (hb.cell (block_lt_of_cell e11)).trans e11
      have e12' := (hb.cell (block_lt_of_cell e12)).trans e12
      clear hb
      go_wp2
      exact Below.refl _ _
    refine ⟨?_, ?_⟩
    · simp only [QTail.kindOf]
      intro vs w' hb hd
      simp [QTail.DepsOK, Region.binds, QTail.isVal] at hd
      simp only [QTail.putA]
      clear hb
      go_wp2_with (refine (add_c _ _ _ _ G1.out).mono ?_; rintro e u ⟨rfl, hb1⟩)
      try exact hb1
    refine ⟨?_, ?_⟩
    · simp only [QTail.kindOf]
      intro vs w' hb hd
      simp [QTail.DepsOK, Region.binds, QTail.isVal] at hd
      simp only [QTail.putA]
      clear hb
      go_wp2_with (refine (divK_c _ _ _ _ G2.out).mono ?_; rintro e u ⟨rfl, hb1⟩)
      try exact hb1
    refine ⟨?_, ?_⟩
    · simp only [QTail.kindOf]
      intro vs w'
      simp only [QTail.putA]
      go_wp2
      exact ⟨_, _, rfl⟩
    refine ⟨?_, ?_⟩
    · simp only [QTail.kindOf]
      intro vs w'
      simp only [QTail.putA]
      go_wp2
      exact ⟨_, _, rfl⟩
    refine ⟨?_, ?_⟩
    · simp only [QTail.kindOf]
      intro vs w'
      simp only [QTail.putA]
      go_wp2
      exact ⟨_, _, rfl⟩
    refine ⟨?_, ?_⟩
    · simp only [QTail.kindOf]
      intro vs w' b x hb hd hc hf
      simp [QTail.DepsOK, Region.binds, QTail.isVal] at hd
      simp only [QTail.putA]
      go_wp2
    refine ⟨?_, ?_⟩
    · simp only [QTail.kindOf]
      intro vs w' b x hb hd hc hf
      simp [QTail.DepsOK, Region.binds, QTail.isVal] at hd
      simp only [QTail.putA]
      go_wp2
    refine ⟨?_, ?_⟩
    · simp only [QTail.kindOf]
      intro vs w' b x hb hd hc hf
      simp [QTail.DepsOK, Region.binds, QTail.isVal] at hd
      simp only [QTail.putA]
      go_wp2
    trivial
  · intro bk W13 hb hn hne
    obtain ⟨s0, f0, c0⟩ := hn (7, 10, .float .f64 9221120237041090561) (by simp)
    obtain ⟨s1, f1, c1⟩ := hn (8, 11, .float .f64 0) (by simp)
    have d01 := hne (7, 10, .float .f64 9221120237041090561) (by simp) (8, 11, .float .f64 0) (by simp) (by simp)
    obtain ⟨s2, f2, c2⟩ := hn (9, 12, .float .f64 lt) (by simp)
    have d02 := hne (7, 10, .float .f64 9221120237041090561) (by simp) (9, 12, .float .f64 lt) (by simp) (by simp)
    have d12 := hne (8, 11, .float .f64 0) (by simp) (9, 12, .float .f64 lt) (by simp) (by simp)
    simp only [] at s0 f0 c0 s1 f1 c1 s2 f2 c2 d01 d02 d12
    clear e11 e12 hn hne
    simp only [QTail.putA, QTail.fv, QTail.isVal]
    generalize bk 7 = q11 at *
    generalize bk 8 = q12 at *
    generalize bk 9 = q13 at *
    have L := H.lt
    have Z := H.bel.size
    replace H := H.add hb s0 c0 f0
    replace H := H.add2 (Nat.le_trans Z s1) (by intro p hp; simp only [List.map_cons, List.mem_cons] at hp L; rcases hp with rfl | hp; (exact d01); (have := L p (by simpa using hp); omega)) c1 f1
    replace H := H.add2 (Nat.le_trans Z s2) (by intro p hp; simp only [List.map_cons, List.mem_cons] at hp L; rcases hp with rfl | rfl | hp; (exact d12); (exact d02); (have := L p (by simpa using hp); omega)) c2 f2
    clear hb L Z s0 f0 c0 s1 f1 c1 s2 f2 c2  d01 d02 d12
    clear W10
    go_upto_region 4 with (fail)
    have g14 := fun d os => cell_regrown (H.at_ 4 rfl) d os
    have g15 := fun d os => cell_regrown (H.at_ 3 rfl) d os
    refine seq_tail 3 (fun Q hQ => ?_)
    simp only [List.take_succ_cons, List.take_zero, List.drop_succ_cons, List.drop_zero]
    repeat (quiet_step (first | exact Calls.regrown_of (sub_c _ _ _ _ G3.out)))
    refine wpQuiet_nil ?_
    clear g14 g15
    intro W16 hw
    replace H := H.regrown hw
    clear hw W13
    go_upto_region 5 with (fail)
    refine wp_gen fun W17 hW => ?_
    replace H := H.new d 38
    rw [← hW] at H
    clear hW
    generalize W16.heap.size = q14 at *
    clear W16
    have g18 := fun d os => cell_regrown (H.at_ 0 rfl) d os
    refine seq_tail 2 (fun Q hQ => ?_)
    simp only [List.take_succ_cons, List.take_zero, List.drop_succ_cons, List.drop_zero]
    repeat (quiet_step (first | exact Calls.regrown_of (valB_c _ _)))
    refine wpQuiet_nil ?_
    clear g18
    intro W19 hw
    replace H := H.regrown hw
    clear hw W17
    have t1 := G4.out
    go_upto_region 6 with (fail)
    clear t1
    have e20 := H.at_ 1 rfl
    refine QTail.wp_region_fun (fun i => [fl lt, fl lt, fl (negB lt), fl a2, fl (minB lt a2), undef, undef].getD i undef) [(5, 6, .float .f64 (minB lt a2))] (by kernel_rfl) (by kernel_rfl) (by kernel_rfl) ?_ ?_
    · refine ⟨?_, ?_⟩
      · simp only [QTail.kindOf]
        intro vs w' hb hd
        simp [QTail.DepsOK, Region.binds, QTail.isVal] at hd
        simp only [QTail.putA]
        have e20' := (hb.cell (block_lt_of_cell e20)).trans e20
        clear hb
        go_wp2
        exact Below.refl _ _
      refine ⟨?_, ?_⟩
      · simp only [QTail.kindOf]
        intro vs w' hb hd
        simp [QTail.DepsOK, Region.binds, QTail.isVal] at hd
        simp only [QTail.putA]
        have e20' := (hb.cell (block_lt_of_cell e20)).trans e20
        clear hb
        go_wp2
        exact Below.refl _ _
      refine ⟨?_, ?_⟩
      · simp only [QTail.kindOf]
        intro vs w' hb hd
        simp [QTail.DepsOK, Region.binds, QTail.isVal] at hd
        simp only [QTail.putA]
        clear hb
        go_wp2_with (refine (neg_c _ _).mono ?_; rintro e u ⟨rfl, hb1⟩)
        try exact hb1
      refine ⟨?_, ?_⟩
      · simp only [QTail.kindOf]
        intro vs w' hb hd
        simp [QTail.DepsOK, Region.binds, QTail.isVal] at hd
        simp only [QTail.putA]
        clear hb
        go_wp2_with (refine (addK_c _ _ _ _ G5.out).mono ?_; rintro e u ⟨rfl, hb1⟩)
        try exact hb1
      refine ⟨?_, ?_⟩
      · simp only [QTail.kindOf]
        intro vs w' hb hd
        simp [QTail.DepsOK, Region.binds, QTail.isVal] at hd
        simp only [QTail.putA]
        clear hb
        go_wp2_with (refine (min2_c _ _ _).mono ?_; rintro e u ⟨rfl, hb1⟩)
        try exact hb1
      refine ⟨?_, ?_⟩
      · simp only [QTail.kindOf]
        intro vs w'
        simp only [QTail.putA]
        go_wp2
        exact ⟨_, _, rfl⟩
      refine ⟨?_, ?_⟩
      · simp only [QTail.kindOf]
        intro vs w' b x hb hd hc hf
        simp [QTail.DepsOK, Region.binds, QTail.isVal] at hd
        simp only [QTail.putA]
        go_wp2
      trivial
    · intro bk W21 hb hn hne
      obtain ⟨s0, f0, c0⟩ := hn (5, 6, .float .f64 (minB lt a2)) (by simp)
      simp only [] at s0 f0 c0
      clear e20 hn hne
      simp only [QTail.putA, QTail.fv, QTail.isVal]
      generalize bk 5 = q15 at *
      have L := H.lt
      have Z := H.bel.size
      replace H := H.add hb s0 c0 f0
      clear hb L Z s0 f0 c0 
      clear W19
      go_upto_region 7 with (fail)
      have g22 := fun d os => cell_regrown (H.at_ 0 rfl) d os
      refine seq_tail 2 (fun Q hQ => ?_)
      simp only [List.take_succ_cons, List.take_zero, List.drop_succ_cons, List.drop_zero]
      repeat (quiet_step (first | exact Calls.regrown_of (valB_c _ _)))
      refine wpQuiet_nil ?_
      clear g22
      intro W23 hw
      replace H := H.regrown hw
      clear hw W21
      have t1 := G6.out
      go_upto_region 8 with (fail)
      clear t1
      have g24 := fun d os => cell_regrown (H.at_ 6 rfl) d os
      have g25 := fun d os => cell_regrown (H.at_ 2 rfl) d os
      have g26 := fun d os => cell_regrown (H.at_ 0 rfl) d os
      refine drawn_tail 5 (by kernel_rfl) (by kernel_rfl) (by kernel_rfl) (fun Q hQ => ?_)
      simp only [List.take_succ_cons, List.take_zero, List.drop_succ_cons, List.drop_zero]
      repeat (quiet_step (first | exact Calls.regrown_of (sub_c _ _ _ _ G7.out) | exact Calls.regrown_of (div_c _ _ _ _ G8.out)))
      refine wpQuiet_nil ?_
      clear g24 g25 g26
      intro W27 hw
      replace H := H.regrown hw
      clear hw W23
      have cz := H.at_ 3 rfl
      have fz := H.fz 3 rfl
      go_upto_region 9 with (fail)
      clear cz fz
      refine wp_gen fun W28 hW => ?_
      replace H : CL w [(q15, (minB lt a2)), (q14, d), (q13, lt), (q12, sat), (q11, 9221120237041090561), (q10, (minB (minB r g) b)), (q9, (maxB (maxB r g) b)), (w.heap.size + 1 + 1 + 1 + 1 + 1, 0), (w.heap.size + 1 + 1 + 1 + 1, 0), (w.heap.size + 1 + 1 + 1, 0), (w.heap.size + 1 + 1, b), (w.heap.size + 1, g), (w.heap.size, r)] W28 := by rw [hW]; exact H.set 3 sat rfl
      clear hW W27
      have ca := H.at_ 6 rfl; have cr := H.at_ 12 rfl; have cg := H.at_ 11 rfl; have cb := H.at_ 10 rfl
      have ke := eql_fl
      have t1 := G9.out
      go_upto_region 11 with (fail)
      clear t1 ca cr cg cb ke
      have g29 := fun d os => cell_regrown (H.at_ 11 rfl) d os
      have g30 := fun d os => cell_regrown (H.at_ 10 rfl) d os
      have g31 := fun d os => cell_regrown (H.at_ 1 rfl) d os
      refine drawn_tail 5 (by kernel_rfl) (by kernel_rfl) (by kernel_rfl) (fun Q hQ => ?_)
      simp only [List.take_succ_cons, List.take_zero, List.drop_succ_cons, List.drop_zero]
      repeat (quiet_step (first | exact Calls.regrown_of (sub_c _ _ _ _ G10.out) | exact Calls.regrown_of (div_c _ _ _ _ G11.out)))
      refine wpQuiet_nil ?_
      clear g29 g30 g31
      intro W32 hw
      replace H := H.regrown hw
      clear hw W28
      have cz := H.at_ 4 rfl
      have fz := H.fz 4 rfl
      go_upto_region 12 with (fail)
      clear cz fz
      refine wp_gen fun W33 hW => ?_
      replace H : CL w [(q15, (minB lt a2)), (q14, d), (q13, lt), (q12, sat), (q11, y2), (q10, (minB (minB r g) b)), (q9, (maxB (maxB r g) b)), (w.heap.size + 1 + 1 + 1 + 1 + 1, 0), (w.heap.size + 1 + 1 + 1 + 1, 0), (w.heap.size + 1 + 1 + 1, 0), (w.heap.size + 1 + 1, b), (w.heap.size + 1, g), (w.heap.size, r)] W33 := by rw [hW]; exact H.set 4 y2 rfl
      clear hW W32
      have g34 := fun d os => cell_regrown (H.at_ 11 rfl) d os
      have g35 := fun d os => cell_regrown (H.at_ 10 rfl) d os
      have t1 := G12.out
      refine wp_region_quiet_below (by kernel_rfl) (by kernel_rfl) ?_
      repeat (quiet_step (exact Calls.regrown_of (valB_c _ _)))
      refine wpQuiet_nil ?_
      clear g34 g35
      intro W36 hw
      replace H := H.regrown hw
      clear hw W33
      go_upto_region 13 with (fail)
      clear t1
      have g37 := fun d os => cell_regrown (H.at_ 4 rfl) d os
      refine seq_tail 2 (fun Q hQ => ?_)
      simp only [List.take_succ_cons, List.take_zero, List.drop_succ_cons, List.drop_zero]
      repeat (quiet_step (first | exact Calls.regrown_of (addK_c _ _ _ _ G13.out)))
      refine wpQuiet_nil ?_
      clear g37
      intro W38 hw
      replace H := H.regrown hw
      clear hw W36
      have cz := H.at_ 4 rfl
      have fz := H.fz 4 rfl
      go_upto_region 18 with (fail)
      clear cz fz
      refine wp_gen fun W39 hW => ?_
      replace H : CL w [(q15, (minB lt a2)), (q14, d), (q13, lt), (q12, sat), (q11, h), (q10, (minB (minB r g) b)), (q9, (maxB (maxB r g) b)), (w.heap.size + 1 + 1 + 1 + 1 + 1, 0), (w.heap.size + 1 + 1 + 1 + 1, 0), (w.heap.size + 1 + 1 + 1, 0), (w.heap.size + 1 + 1, b), (w.heap.size + 1, g), (w.heap.size, r)] W39 := by rw [hW]; exact H.set 4 h rfl
      clear hW W38
      have g40 := fun d os => cell_regrown (H.at_ 4 rfl) d os
      refine seq_tail 2 (fun Q hQ => ?_)
      simp only [List.take_succ_cons, List.take_zero, List.drop_succ_cons, List.drop_zero]
      repeat (quiet_step (first | exact Calls.regrown_of (mulK_c _ _ _ _ G14.out)))
      refine wpQuiet_nil ?_
      clear g40
      intro W41 hw
      replace H := H.regrown hw
      clear hw W39
      have cz := H.at_ 4 rfl
      have fz := H.fz 4 rfl
      go_upto_region 19 with (fail)
      clear cz fz
      refine wp_gen fun W42 hW => ?_
      replace H : CL w [(q15, (minB lt a2)), (q14, d), (q13, lt), (q12, sat), (q11, h1), (q10, (minB (minB r g) b)), (q9, (maxB (maxB r g) b)), (w.heap.size + 1 + 1 + 1 + 1 + 1, 0), (w.heap.size + 1 + 1 + 1 + 1, 0), (w.heap.size + 1 + 1 + 1, 0), (w.heap.size + 1 + 1, b), (w.heap.size + 1, g), (w.heap.size, r)] W42 := by rw [hW]; exact H.set 4 h1 rfl
      clear hW W41
      have g43 := fun d os => cell_regrown (H.at_ 4 rfl) d os
      have g44 := fun d os => cell_regrown (H.at_ 3 rfl) d os
      have g45 := fun d os => cell_regrown (H.at_ 2 rfl) d os
      refine drawn_tail 5 (by kernel_rfl) (by kernel_rfl) (by kernel_rfl) (fun Q hQ => ?_)
      simp only [List.take_succ_cons, List.take_zero, List.drop_succ_cons, List.drop_zero]
      repeat (quiet_step (first | exact Calls.regrown_of (mulK_c _ _ _ _ G15.out) | exact Calls.regrown_of (mulK_c _ _ _ _ G16.out)))
      refine wpQuiet_nil ?_
      clear g43 g44 g45
      intro W46 hw
      replace H := H.regrown hw
      clear hw W42
      have d0 := H.at_ 9 rfl; have f0 := H.fz 9 rfl
      have d1 := H.at_ 8 rfl; have f1 := H.fz 8 rfl
      have d2 := H.at_ 7 rfl; have f2 := H.fz 7 rfl
      have hB := (((H.set 9 h1 rfl).set 8 s1 rfl).set 7 l1 rfl).bel
      clear H
      go_wp2
      exact bodyPost_ret (v := .tuple #[fl h1, fl s1, fl l1]) (by simp [results, Try.results25, go_sem, d0, d1, d2]) rfl ⟨rfl, hB⟩
set_option maxRecDepth 100000 in
set_option maxHeartbeats 4000000 in
theorem hsl_green (r g b sm lt d a2 x1 sat y1 y2 h h1 s1 l1 : Nat) (w : World) (F1 : floatBits .add .f64 (minB (minB r g) b) (maxB (maxB r g) b) = some sm) (F2 : floatBits .quo .f64 sm 4611686018427387904 = some lt) (F3 : floatBits .sub .f64 (maxB (maxB r g) b) (minB (minB r g) b) = some d) (F4 : (FloatKind.f64.format.order d 0 != some .eq) = true) (F5 : floatBits .add .f64 (negB lt) 4607182418800017408 = some a2) (F6 : (FloatKind.f64.format.order (minB lt a2) 0 != some .eq) = true) (F7 : floatBits .sub .f64 (maxB (maxB r g) b) lt = some x1) (F8 : floatBits .quo .f64 x1 (minB lt a2) = some sat) (F9 : (FloatKind.f64.format.order (maxB (maxB r g) b) r == some .eq) = false) (F10 : (FloatKind.f64.format.order (maxB (maxB r g) b) g == some .eq) = true) (F11 : floatBits .sub .f64 b r = some y1) (F12 : floatBits .quo .f64 y1 d = some y2) (F13 : floatBits .add .f64 y2 4611686018427387904 = some h) (F14 : floatBits .mul .f64 h 4633641066610819072 = some h1) (F15 : floatBits .mul .f64 sat 4636737291354636288 = some s1) (F16 : floatBits .mul .f64 lt 4636737291354636288 = some l1) :
    Calls Try.prog 25 #[fl r, fl g, fl b] w fun e w' => e = .returned (.tuple #[fl h1, fl s1, fl l1]) ∧ Below w.heap.size w w' := by
  have st := st_fl
  have G1 := Lib.hid F1; have G2 := Lib.hid F2; have G3 := Lib.hid F3; have G4 := Lib.hid F4; have G5 := Lib.hid F5; have G6 := Lib.hid F6; have G7 := Lib.hid F7; have G8 := Lib.hid F8; have G9 := Lib.hid F9; have G10 := Lib.hid F10; have G11 := Lib.hid F11; have G12 := Lib.hid F12; have G13 := Lib.hid F13; have G14 := Lib.hid F14; have G15 := Lib.hid F15; have G16 := Lib.hid F16
  clear F1 F2 F3 F4 F5 F6 F7 F8 F9 F10 F11 F12 F13 F14 F15 F16
  go_enter Try.func25, Try.ntmps25
  go_upto_region 1 with (fail)
  refine wp_gen fun W0 hW => ?_
  have H : CL w [(w.heap.size + 1 + 1 + 1 + 1 + 1, 0), (w.heap.size + 1 + 1 + 1 + 1, 0), (w.heap.size + 1 + 1 + 1, 0), (w.heap.size + 1 + 1, b), (w.heap.size + 1, g), (w.heap.size, r)] W0 := by rw [hW]; have := ((((((CL.start w).new r 38).new g 38).new b 38).new 0 38).new 0 38).new 0 38; simpa using this
  clear hW
  have g1 := fun d os => cell_regrown (H.at_ 5 rfl) d os
  have g2 := fun d os => cell_regrown (H.at_ 4 rfl) d os
  have g3 := fun d os => cell_regrown (H.at_ 3 rfl) d os
  refine seq_tail 4 (fun Q hQ => ?_)
  simp only [List.take_succ_cons, List.take_zero, List.drop_succ_cons, List.drop_zero]
  repeat (quiet_step (first | exact Calls.regrown_of (max3_c _ _ _ _)))
  refine wpQuiet_nil ?_
  clear g1 g2 g3
  intro W4 hw
  replace H := H.regrown hw
  clear hw W0
  go_upto_region 2 with (fail)
  refine wp_gen fun W5 hW => ?_
  replace H := H.new (maxB (maxB r g) b) 38
  rw [← hW] at H
  clear hW
  generalize W4.heap.size = q9 at *
  clear W4
  have g6 := fun d os => cell_regrown (H.at_ 6 rfl) d os
  have g7 := fun d os => cell_regrown (H.at_ 5 rfl) d os
  have g8 := fun d os => cell_regrown (H.at_ 4 rfl) d os
  refine seq_tail 4 (fun Q hQ => ?_)
  simp only [List.take_succ_cons, List.take_zero, List.drop_succ_cons, List.drop_zero]
  repeat (quiet_step (first | exact Calls.regrown_of (min3_c _ _ _ _)))
  refine wpQuiet_nil ?_
  clear g6 g7 g8
  intro W9 hw
  replace H := H.regrown hw
  clear hw W5
  go_upto_region 3 with (fail)
  refine wp_gen fun W10 hW => ?_
  replace H := H.new (minB (minB r g) b) 38
  rw [← hW] at H
  clear hW
  generalize W9.heap.size = q10 at *
  clear W9
  have e11 := H.at_ 0 rfl
  have e12 := H.at_ 1 rfl
  refine QTail.wp_region_fun (fun i => [(.float .f64 9221120237041090561), fl 9221120237041090561, fl 0, fl (minB (minB r g) b), fl (maxB (maxB r g) b), fl sm, fl lt, undef, undef, undef, undef, undef, undef].getD i undef) [(7, 10, .float .f64 9221120237041090561), (8, 11, .float .f64 0), (9, 12, .float .f64 lt)] (by kernel_rfl) (by kernel_rfl) (by kernel_rfl) ?_ ?_
  · refine ⟨?_, ?_⟩
    · simp only [QTail.kindOf]
      intro vs w' hb hd
      simp [QTail.DepsOK, Region.binds, QTail.isVal] at hd
      simp only [QTail.putA]
      clear hb
      go_wp2_with (refine (nan_c _).mono ?_; rintro e u ⟨rfl, hb1⟩)
      try exact hb1
    refine ⟨?_, ?_⟩
    · simp only [QTail.kindOf]
      intro vs w' hb hd
      simp [QTail.DepsOK, Region.binds, QTail.isVal] at hd
      simp only [QTail.putA]
      clear hb
      go_wp2_with (refine (newB_c _ _).mono ?_; rintro e u ⟨rfl, hb1⟩)
      try exact hb1
    refine ⟨?_, ?_⟩
    · simp only [QTail.kindOf]
      intro vs w' hb hd
      simp [QTail.DepsOK, Region.binds, QTail.isVal] at hd
      simp only [QTail.putA]
      clear hb
      go_wp2_with (refine (newB_c _ _).mono ?_; rintro e u ⟨rfl, hb1⟩)
      try exact hb1
    refine ⟨?_, ?_⟩
    · simp only [QTail.kindOf]
      intro vs w' hb hd
      simp [QTail.DepsOK, Region.binds, QTail.isVal] at hd
      simp only [QTail.putA]
      have e11' := (hb.cell (block_lt_of_cell e11)).trans e11
      have e12' := (hb.cell (block_lt_of_cell e12)).trans e12
      clear hb
      go_wp2
      exact Below.refl _ _
    refine ⟨?_, ?_⟩
    · simp only [QTail.kindOf]
      intro vs w' hb hd
      simp [QTail.DepsOK, Region.binds, QTail.isVal] at hd
      simp only [QTail.putA]
      have e11' := (hb.cell (block_lt_of_cell e11)).trans e11
      have e12' := (hb.cell (block_lt_of_cell e12)).trans e12
      clear hb
      go_wp2
      exact Below.refl _ _
    refine ⟨?_, ?_⟩
    · simp only [QTail.kindOf]
      intro vs w' hb hd
      simp [QTail.DepsOK, Region.binds, QTail.isVal] at hd
      simp only [QTail.putA]
      clear hb
      go_wp2_with (refine (add_c _ _ _ _ G1.out).mono ?_; rintro e u ⟨rfl, hb1⟩)
      try exact hb1
    refine ⟨?_, ?_⟩
    · simp only [QTail.kindOf]
      intro vs w' hb hd
      simp [QTail.DepsOK, Region.binds, QTail.isVal] at hd
      simp only [QTail.putA]
      clear hb
      go_wp2_with (refine (divK_c _ _ _ _ G2.out).mono ?_; rintro e u ⟨rfl, hb1⟩)
      try exact hb1
    refine ⟨?_, ?_⟩
    · simp only [QTail.kindOf]
      intro vs w'
      simp only [QTail.putA]
      go_wp2
      exact ⟨_, _, rfl⟩
    refine ⟨?_, ?_⟩
    · simp only [QTail.kindOf]
      intro vs w'
      simp only [QTail.putA]
      go_wp2
      exact ⟨_, _, rfl⟩
    refine ⟨?_, ?_⟩
    · simp only [QTail.kindOf]
      intro vs w'
      simp only [QTail.putA]
      go_wp2
      exact ⟨_, _, rfl⟩
    refine ⟨?_, ?_⟩
    · simp only [QTail.kindOf]
      intro vs w' b x hb hd hc hf
      simp [QTail.DepsOK, Region.binds, QTail.isVal] at hd
      simp only [QTail.putA]
      go_wp2
    refine ⟨?_, ?_⟩
    · simp only [QTail.kindOf]
      intro vs w' b x hb hd hc hf
      simp [QTail.DepsOK, Region.binds, QTail.isVal] at hd
      simp only [QTail.putA]
      go_wp2
    refine ⟨?_, ?_⟩
    · simp only [QTail.kindOf]
      intro vs w' b x hb hd hc hf
      simp [QTail.DepsOK, Region.binds, QTail.isVal] at hd
      simp only [QTail.putA]
      go_wp2
    trivial
  · intro bk W13 hb hn hne
    obtain ⟨s0, f0, c0⟩ := hn (7, 10, .float .f64 9221120237041090561) (by simp)
    obtain ⟨s1, f1, c1⟩ := hn (8, 11, .float .f64 0) (by simp)
    have d01 := hne (7, 10, .float .f64 9221120237041090561) (by simp) (8, 11, .float .f64 0) (by simp) (by simp)
    obtain ⟨s2, f2, c2⟩ := hn (9, 12, .float .f64 lt) (by simp)
    have d02 := hne (7, 10, .float .f64 9221120237041090561) (by simp) (9, 12, .float .f64 lt) (by simp) (by simp)
    have d12 := hne (8, 11, .float .f64 0) (by simp) (9, 12, .float .f64 lt) (by simp) (by simp)
    simp only [] at s0 f0 c0 s1 f1 c1 s2 f2 c2 d01 d02 d12
    clear e11 e12 hn hne
    simp only [QTail.putA, QTail.fv, QTail.isVal]
    generalize bk 7 = q11 at *
    generalize bk 8 = q12 at *
    generalize bk 9 = q13 at *
    have L := H.lt
    have Z := H.bel.size
    replace H := H.add hb s0 c0 f0
    replace H := H.add2 (Nat.le_trans Z s1) (by intro p hp; simp only [List.map_cons, List.mem_cons] at hp L; rcases hp with rfl | hp; (exact d01); (have := L p (by simpa using hp); omega)) c1 f1
    replace H := H.add2 (Nat.le_trans Z s2) (by intro p hp; simp only [List.map_cons, List.mem_cons] at hp L; rcases hp with rfl | rfl | hp; (exact d12); (exact d02); (have := L p (by simpa using hp); omega)) c2 f2
    clear hb L Z s0 f0 c0 s1 f1 c1 s2 f2 c2  d01 d02 d12
    clear W10
    go_upto_region 4 with (fail)
    have g14 := fun d os => cell_regrown (H.at_ 4 rfl) d os
    have g15 := fun d os => cell_regrown (H.at_ 3 rfl) d os
    refine seq_tail 3 (fun Q hQ => ?_)
    simp only [List.take_succ_cons, List.take_zero, List.drop_succ_cons, List.drop_zero]
    repeat (quiet_step (first | exact Calls.regrown_of (sub_c _ _ _ _ G3.out)))
    refine wpQuiet_nil ?_
    clear g14 g15
    intro W16 hw
    replace H := H.regrown hw
    clear hw W13
    go_upto_region 5 with (fail)
    refine wp_gen fun W17 hW => ?_
    replace H := H.new d 38
    rw [← hW] at H
    clear hW
    generalize W16.heap.size = q14 at *
    clear W16
    have g18 := fun d os => cell_regrown (H.at_ 0 rfl) d os
    refine seq_tail 2 (fun Q hQ => ?_)
    simp only [List.take_succ_cons, List.take_zero, List.drop_succ_cons, List.drop_zero]
    repeat (quiet_step (first | exact Calls.regrown_of (valB_c _ _)))
    refine wpQuiet_nil ?_
    clear g18
    intro W19 hw
    replace H := H.regrown hw
    clear hw W17
    have t1 := G4.out
    go_upto_region 6 with (fail)
    clear t1
    have e20 := H.at_ 1 rfl
    refine QTail.wp_region_fun (fun i => [fl lt, fl lt, fl (negB lt), fl a2, fl (minB lt a2), undef, undef].getD i undef) [(5, 6, .float .f64 (minB lt a2))] (by kernel_rfl) (by kernel_rfl) (by kernel_rfl) ?_ ?_
    · refine ⟨?_, ?_⟩
      · simp only [QTail.kindOf]
        intro vs w' hb hd
        simp [QTail.DepsOK, Region.binds, QTail.isVal] at hd
        simp only [QTail.putA]
        have e20' := (hb.cell (block_lt_of_cell e20)).trans e20
        clear hb
        go_wp2
        exact Below.refl _ _
      refine ⟨?_, ?_⟩
      · simp only [QTail.kindOf]
        intro vs w' hb hd
        simp [QTail.DepsOK, Region.binds, QTail.isVal] at hd
        simp only [QTail.putA]
        have e20' := (hb.cell (block_lt_of_cell e20)).trans e20
        clear hb
        go_wp2
        exact Below.refl _ _
      refine ⟨?_, ?_⟩
      · simp only [QTail.kindOf]
        intro vs w' hb hd
        simp [QTail.DepsOK, Region.binds, QTail.isVal] at hd
        simp only [QTail.putA]
        clear hb
        go_wp2_with (refine (neg_c _ _).mono ?_; rintro e u ⟨rfl, hb1⟩)
        try exact hb1
      refine ⟨?_, ?_⟩
      · simp only [QTail.kindOf]
        intro vs w' hb hd
        simp [QTail.DepsOK, Region.binds, QTail.isVal] at hd
        simp only [QTail.putA]
        clear hb
        go_wp2_with (refine (addK_c _ _ _ _ G5.out).mono ?_; rintro e u ⟨rfl, hb1⟩)
        try exact hb1
      refine ⟨?_, ?_⟩
      · simp only [QTail.kindOf]
        intro vs w' hb hd
        simp [QTail.DepsOK, Region.binds, QTail.isVal] at hd
        simp only [QTail.putA]
        clear hb
        go_wp2_with (refine (min2_c _ _ _).mono ?_; rintro e u ⟨rfl, hb1⟩)
        try exact hb1
      refine ⟨?_, ?_⟩
      · simp only [QTail.kindOf]
        intro vs w'
        simp only [QTail.putA]
        go_wp2
        exact ⟨_, _, rfl⟩
      refine ⟨?_, ?_⟩
      · simp only [QTail.kindOf]
        intro vs w' b x hb hd hc hf
        simp [QTail.DepsOK, Region.binds, QTail.isVal] at hd
        simp only [QTail.putA]
        go_wp2
      trivial
    · intro bk W21 hb hn hne
      obtain ⟨s0, f0, c0⟩ := hn (5, 6, .float .f64 (minB lt a2)) (by simp)
      simp only [] at s0 f0 c0
      clear e20 hn hne
      simp only [QTail.putA, QTail.fv, QTail.isVal]
      generalize bk 5 = q15 at *
      have L := H.lt
      have Z := H.bel.size
      replace H := H.add hb s0 c0 f0
      clear hb L Z s0 f0 c0 
      clear W19
      go_upto_region 7 with (fail)
      have g22 := fun d os => cell_regrown (H.at_ 0 rfl) d os
      refine seq_tail 2 (fun Q hQ => ?_)
      simp only [List.take_succ_cons, List.take_zero, List.drop_succ_cons, List.drop_zero]
      repeat (quiet_step (first | exact Calls.regrown_of (valB_c _ _)))
      refine wpQuiet_nil ?_
      clear g22
      intro W23 hw
      replace H := H.regrown hw
      clear hw W21
      have t1 := G6.out
      go_upto_region 8 with (fail)
      clear t1
      have g24 := fun d os => cell_regrown (H.at_ 6 rfl) d os
      have g25 := fun d os => cell_regrown (H.at_ 2 rfl) d os
      have g26 := fun d os => cell_regrown (H.at_ 0 rfl) d os
      refine drawn_tail 5 (by kernel_rfl) (by kernel_rfl) (by kernel_rfl) (fun Q hQ => ?_)
      simp only [List.take_succ_cons, List.take_zero, List.drop_succ_cons, List.drop_zero]
      repeat (quiet_step (first | exact Calls.regrown_of (sub_c _ _ _ _ G7.out) | exact Calls.regrown_of (div_c _ _ _ _ G8.out)))
      refine wpQuiet_nil ?_
      clear g24 g25 g26
      intro W27 hw
      replace H := H.regrown hw
      clear hw W23
      have cz := H.at_ 3 rfl
      have fz := H.fz 3 rfl
      go_upto_region 9 with (fail)
      clear cz fz
      refine wp_gen fun W28 hW => ?_
      replace H : CL w [(q15, (minB lt a2)), (q14, d), (q13, lt), (q12, sat), (q11, 9221120237041090561), (q10, (minB (minB r g) b)), (q9, (maxB (maxB r g) b)), (w.heap.size + 1 + 1 + 1 + 1 + 1, 0), (w.heap.size + 1 + 1 + 1 + 1, 0), (w.heap.size + 1 + 1 + 1, 0), (w.heap.size + 1 + 1, b), (w.heap.size + 1, g), (w.heap.size, r)] W28 := by rw [hW]; exact H.set 3 sat rfl
      clear hW W27
      have ca := H.at_ 6 rfl; have cr := H.at_ 12 rfl; have cg := H.at_ 11 rfl; have cb := H.at_ 10 rfl
      have ke := eql_fl
      have t1 := G9.out; have t2 := G10.out
      go_upto_region 15 with (fail)
      clear t1 t2 ca cr cg cb ke
      have g29 := fun d os => cell_regrown (H.at_ 10 rfl) d os
      have g30 := fun d os => cell_regrown (H.at_ 12 rfl) d os
      have g31 := fun d os => cell_regrown (H.at_ 1 rfl) d os
      refine drawn_tail 6 (by kernel_rfl) (by kernel_rfl) (by kernel_rfl) (fun Q hQ => ?_)
      simp only [List.take_succ_cons, List.take_zero, List.drop_succ_cons, List.drop_zero]
      repeat (quiet_step (first | exact Calls.regrown_of (sub_c _ _ _ _ G11.out) | exact Calls.regrown_of (div_c _ _ _ _ G12.out) | exact Calls.regrown_of (addK_c _ _ _ _ G13.out)))
      refine wpQuiet_nil ?_
      clear g29 g30 g31
      intro W32 hw
      replace H := H.regrown hw
      clear hw W28
      have cz := H.at_ 4 rfl
      have fz := H.fz 4 rfl
      go_upto_region 18 with (fail)
      clear cz fz
      refine wp_gen fun W33 hW => ?_
      replace H : CL w [(q15, (minB lt a2)), (q14, d), (q13, lt), (q12, sat), (q11, h), (q10, (minB (minB r g) b)), (q9, (maxB (maxB r g) b)), (w.heap.size + 1 + 1 + 1 + 1 + 1, 0), (w.heap.size + 1 + 1 + 1 + 1, 0), (w.heap.size + 1 + 1 + 1, 0), (w.heap.size + 1 + 1, b), (w.heap.size + 1, g), (w.heap.size, r)] W33 := by rw [hW]; exact H.set 4 h rfl
      clear hW W32
      have g34 := fun d os => cell_regrown (H.at_ 4 rfl) d os
      refine seq_tail 2 (fun Q hQ => ?_)
      simp only [List.take_succ_cons, List.take_zero, List.drop_succ_cons, List.drop_zero]
      repeat (quiet_step (first | exact Calls.regrown_of (mulK_c _ _ _ _ G14.out)))
      refine wpQuiet_nil ?_
      clear g34
      intro W35 hw
      replace H := H.regrown hw
      clear hw W33
      have cz := H.at_ 4 rfl
      have fz := H.fz 4 rfl
      go_upto_region 19 with (fail)
      clear cz fz
      refine wp_gen fun W36 hW => ?_
      replace H : CL w [(q15, (minB lt a2)), (q14, d), (q13, lt), (q12, sat), (q11, h1), (q10, (minB (minB r g) b)), (q9, (maxB (maxB r g) b)), (w.heap.size + 1 + 1 + 1 + 1 + 1, 0), (w.heap.size + 1 + 1 + 1 + 1, 0), (w.heap.size + 1 + 1 + 1, 0), (w.heap.size + 1 + 1, b), (w.heap.size + 1, g), (w.heap.size, r)] W36 := by rw [hW]; exact H.set 4 h1 rfl
      clear hW W35
      have g37 := fun d os => cell_regrown (H.at_ 4 rfl) d os
      have g38 := fun d os => cell_regrown (H.at_ 3 rfl) d os
      have g39 := fun d os => cell_regrown (H.at_ 2 rfl) d os
      refine drawn_tail 5 (by kernel_rfl) (by kernel_rfl) (by kernel_rfl) (fun Q hQ => ?_)
      simp only [List.take_succ_cons, List.take_zero, List.drop_succ_cons, List.drop_zero]
      repeat (quiet_step (first | exact Calls.regrown_of (mulK_c _ _ _ _ G15.out) | exact Calls.regrown_of (mulK_c _ _ _ _ G16.out)))
      refine wpQuiet_nil ?_
      clear g37 g38 g39
      intro W40 hw
      replace H := H.regrown hw
      clear hw W36
      have d0 := H.at_ 9 rfl; have f0 := H.fz 9 rfl
      have d1 := H.at_ 8 rfl; have f1 := H.fz 8 rfl
      have d2 := H.at_ 7 rfl; have f2 := H.fz 7 rfl
      have hB := (((H.set 9 h1 rfl).set 8 s1 rfl).set 7 l1 rfl).bel
      clear H
      go_wp2
      exact bodyPost_ret (v := .tuple #[fl h1, fl s1, fl l1]) (by simp [results, Try.results25, go_sem, d0, d1, d2]) rfl ⟨rfl, hB⟩
set_option maxRecDepth 100000 in
set_option maxHeartbeats 4000000 in
theorem hsl_blue (r g b sm lt d a2 x1 sat y1 y2 h h1 s1 l1 : Nat) (w : World) (F1 : floatBits .add .f64 (minB (minB r g) b) (maxB (maxB r g) b) = some sm) (F2 : floatBits .quo .f64 sm 4611686018427387904 = some lt) (F3 : floatBits .sub .f64 (maxB (maxB r g) b) (minB (minB r g) b) = some d) (F4 : (FloatKind.f64.format.order d 0 != some .eq) = true) (F5 : floatBits .add .f64 (negB lt) 4607182418800017408 = some a2) (F6 : (FloatKind.f64.format.order (minB lt a2) 0 != some .eq) = true) (F7 : floatBits .sub .f64 (maxB (maxB r g) b) lt = some x1) (F8 : floatBits .quo .f64 x1 (minB lt a2) = some sat) (F9 : (FloatKind.f64.format.order (maxB (maxB r g) b) r == some .eq) = false) (F10 : (FloatKind.f64.format.order (maxB (maxB r g) b) g == some .eq) = false) (F11 : (FloatKind.f64.format.order (maxB (maxB r g) b) b == some .eq) = true) (F12 : floatBits .sub .f64 r g = some y1) (F13 : floatBits .quo .f64 y1 d = some y2) (F14 : floatBits .add .f64 y2 4616189618054758400 = some h) (F15 : floatBits .mul .f64 h 4633641066610819072 = some h1) (F16 : floatBits .mul .f64 sat 4636737291354636288 = some s1) (F17 : floatBits .mul .f64 lt 4636737291354636288 = some l1) :
    Calls Try.prog 25 #[fl r, fl g, fl b] w fun e w' => e = .returned (.tuple #[fl h1, fl s1, fl l1]) ∧ Below w.heap.size w w' := by
  have st := st_fl
  have G1 := Lib.hid F1; have G2 := Lib.hid F2; have G3 := Lib.hid F3; have G4 := Lib.hid F4; have G5 := Lib.hid F5; have G6 := Lib.hid F6; have G7 := Lib.hid F7; have G8 := Lib.hid F8; have G9 := Lib.hid F9; have G10 := Lib.hid F10; have G11 := Lib.hid F11; have G12 := Lib.hid F12; have G13 := Lib.hid F13; have G14 := Lib.hid F14; have G15 := Lib.hid F15; have G16 := Lib.hid F16; have G17 := Lib.hid F17
  clear F1 F2 F3 F4 F5 F6 F7 F8 F9 F10 F11 F12 F13 F14 F15 F16 F17
  go_enter Try.func25, Try.ntmps25
  go_upto_region 1 with (fail)
  refine wp_gen fun W0 hW => ?_
  have H : CL w [(w.heap.size + 1 + 1 + 1 + 1 + 1, 0), (w.heap.size + 1 + 1 + 1 + 1, 0), (w.heap.size + 1 + 1 + 1, 0), (w.heap.size + 1 + 1, b), (w.heap.size + 1, g), (w.heap.size, r)] W0 := by rw [hW]; have := ((((((CL.start w).new r 38).new g 38).new b 38).new 0 38).new 0 38).new 0 38; simpa using this
  clear hW
  have g1 := fun d os => cell_regrown (H.at_ 5 rfl) d os
  have g2 := fun d os => cell_regrown (H.at_ 4 rfl) d os
  have g3 := fun d os => cell_regrown (H.at_ 3 rfl) d os
  refine seq_tail 4 (fun Q hQ => ?_)
  simp only [List.take_succ_cons, List.take_zero, List.drop_succ_cons, List.drop_zero]
  repeat (quiet_step (first | exact Calls.regrown_of (max3_c _ _ _ _)))
  refine wpQuiet_nil ?_
  clear g1 g2 g3
  intro W4 hw
  replace H := H.regrown hw
  clear hw W0
  go_upto_region 2 with (fail)
  refine wp_gen fun W5 hW => ?_
  replace H := H.new (maxB (maxB r g) b) 38
  rw [← hW] at H
  clear hW
  generalize W4.heap.size = q9 at *
  clear W4
  have g6 := fun d os => cell_regrown (H.at_ 6 rfl) d os
  have g7 := fun d os => cell_regrown (H.at_ 5 rfl) d os
  have g8 := fun d os => cell_regrown (H.at_ 4 rfl) d os
  refine seq_tail 4 (fun Q hQ => ?_)
  simp only [List.take_succ_cons, List.take_zero, List.drop_succ_cons, List.drop_zero]
  repeat (quiet_step (first | exact Calls.regrown_of (min3_c _ _ _ _)))
  refine wpQuiet_nil ?_
  clear g6 g7 g8
  intro W9 hw
  replace H := H.regrown hw
  clear hw W5
  go_upto_region 3 with (fail)
  refine wp_gen fun W10 hW => ?_
  replace H := H.new (minB (minB r g) b) 38
  rw [← hW] at H
  clear hW
  generalize W9.heap.size = q10 at *
  clear W9
  have e11 := H.at_ 0 rfl
  have e12 := H.at_ 1 rfl
  refine QTail.wp_region_fun (fun i => [(.float .f64 9221120237041090561), fl 9221120237041090561, fl 0, fl (minB (minB r g) b), fl (maxB (maxB r g) b), fl sm, fl lt, undef, undef, undef, undef, undef, undef].getD i undef) [(7, 10, .float .f64 9221120237041090561), (8, 11, .float .f64 0), (9, 12, .float .f64 lt)] (by kernel_rfl) (by kernel_rfl) (by kernel_rfl) ?_ ?_
  · refine ⟨?_, ?_⟩
    · simp only [QTail.kindOf]
      intro vs w' hb hd
      simp [QTail.DepsOK, Region.binds, QTail.isVal] at hd
      simp only [QTail.putA]
      clear hb
      go_wp2_with (refine (nan_c _).mono ?_; rintro e u ⟨rfl, hb1⟩)
      try exact hb1
    refine ⟨?_, ?_⟩
    · simp only [QTail.kindOf]
      intro vs w' hb hd
      simp [QTail.DepsOK, Region.binds, QTail.isVal] at hd
      simp only [QTail.putA]
      clear hb
      go_wp2_with (refine (newB_c _ _).mono ?_; rintro e u ⟨rfl, hb1⟩)
      try exact hb1
    refine ⟨?_, ?_⟩
    · simp only [QTail.kindOf]
      intro vs w' hb hd
      simp [QTail.DepsOK, Region.binds, QTail.isVal] at hd
      simp only [QTail.putA]
      clear hb
      go_wp2_with (refine (newB_c _ _).mono ?_; rintro e u ⟨rfl, hb1⟩)
      try exact hb1
    refine ⟨?_, ?_⟩
    · simp only [QTail.kindOf]
      intro vs w' hb hd
      simp [QTail.DepsOK, Region.binds, QTail.isVal] at hd
      simp only [QTail.putA]
      have e11' := (hb.cell (block_lt_of_cell e11)).trans e11
      have e12' := (hb.cell (block_lt_of_cell e12)).trans e12
      clear hb
      go_wp2
      exact Below.refl _ _
    refine ⟨?_, ?_⟩
    · simp only [QTail.kindOf]
      intro vs w' hb hd
      simp [QTail.DepsOK, Region.binds, QTail.isVal] at hd
      simp only [QTail.putA]
      have e11' := (hb.cell (block_lt_of_cell e11)).trans e11
      have e12' := (hb.cell (block_lt_of_cell e12)).trans e12
      clear hb
      go_wp2
      exact Below.refl _ _
    refine ⟨?_, ?_⟩
    · simp only [QTail.kindOf]
      intro vs w' hb hd
      simp [QTail.DepsOK, Region.binds, QTail.isVal] at hd
      simp only [QTail.putA]
      clear hb
      go_wp2_with (refine (add_c _ _ _ _ G1.out).mono ?_; rintro e u ⟨rfl, hb1⟩)
      try exact hb1
    refine ⟨?_, ?_⟩
    · simp only [QTail.kindOf]
      intro vs w' hb hd
      simp [QTail.DepsOK, Region.binds, QTail.isVal] at hd
      simp only [QTail.putA]
      clear hb
      go_wp2_with (refine (divK_c _ _ _ _ G2.out).mono ?_; rintro e u ⟨rfl, hb1⟩)
      try exact hb1
    refine ⟨?_, ?_⟩
    · simp only [QTail.kindOf]
      intro vs w'
      simp only [QTail.putA]
      go_wp2
      exact ⟨_, _, rfl⟩
    refine ⟨?_, ?_⟩
    · simp only [QTail.kindOf]
      intro vs w'
      simp only [QTail.putA]
      go_wp2
      exact ⟨_, _, rfl⟩
    refine ⟨?_, ?_⟩
    · simp only [QTail.kindOf]
      intro vs w'
      simp only [QTail.putA]
      go_wp2
      exact ⟨_, _, rfl⟩
    refine ⟨?_, ?_⟩
    · simp only [QTail.kindOf]
      intro vs w' b x hb hd hc hf
      simp [QTail.DepsOK, Region.binds, QTail.isVal] at hd
      simp only [QTail.putA]
      go_wp2
    refine ⟨?_, ?_⟩
    · simp only [QTail.kindOf]
      intro vs w' b x hb hd hc hf
      simp [QTail.DepsOK, Region.binds, QTail.isVal] at hd
      simp only [QTail.putA]
      go_wp2
    refine ⟨?_, ?_⟩
    · simp only [QTail.kindOf]
      intro vs w' b x hb hd hc hf
      simp [QTail.DepsOK, Region.binds, QTail.isVal] at hd
      simp only [QTail.putA]
      go_wp2
    trivial
  · intro bk W13 hb hn hne
    obtain ⟨s0, f0, c0⟩ := hn (7, 10, .float .f64 9221120237041090561) (by simp)
    obtain ⟨s1, f1, c1⟩ := hn (8, 11, .float .f64 0) (by simp)
    have d01 := hne (7, 10, .float .f64 9221120237041090561) (by simp) (8, 11, .float .f64 0) (by simp) (by simp)
    obtain ⟨s2, f2, c2⟩ := hn (9, 12, .float .f64 lt) (by simp)
    have d02 := hne (7, 10, .float .f64 9221120237041090561) (by simp) (9, 12, .float .f64 lt) (by simp) (by simp)
    have d12 := hne (8, 11, .float .f64 0) (by simp) (9, 12, .float .f64 lt) (by simp) (by simp)
    simp only [] at s0 f0 c0 s1 f1 c1 s2 f2 c2 d01 d02 d12
    clear e11 e12 hn hne
    simp only [QTail.putA, QTail.fv, QTail.isVal]
    generalize bk 7 = q11 at *
    generalize bk 8 = q12 at *
    generalize bk 9 = q13 at *
    have L := H.lt
    have Z := H.bel.size
    replace H := H.add hb s0 c0 f0
    replace H := H.add2 (Nat.le_trans Z s1) (by intro p hp; simp only [List.map_cons, List.mem_cons] at hp L; rcases hp with rfl | hp; (exact d01); (have := L p (by simpa using hp); omega)) c1 f1
    replace H := H.add2 (Nat.le_trans Z s2) (by intro p hp; simp only [List.map_cons, List.mem_cons] at hp L; rcases hp with rfl | rfl | hp; (exact d12); (exact d02); (have := L p (by simpa using hp); omega)) c2 f2
    clear hb L Z s0 f0 c0 s1 f1 c1 s2 f2 c2  d01 d02 d12
    clear W10
    go_upto_region 4 with (fail)
    have g14 := fun d os => cell_regrown (H.at_ 4 rfl) d os
    have g15 := fun d os => cell_regrown (H.at_ 3 rfl) d os
    refine seq_tail 3 (fun Q hQ => ?_)
    simp only [List.take_succ_cons, List.take_zero, List.drop_succ_cons, List.drop_zero]
    repeat (quiet_step (first | exact Calls.regrown_of (sub_c _ _ _ _ G3.out)))
    refine wpQuiet_nil ?_
    clear g14 g15
    intro W16 hw
    replace H := H.regrown hw
    clear hw W13
    go_upto_region 5 with (fail)
    refine wp_gen fun W17 hW => ?_
    replace H := H.new d 38
    rw [← hW] at H
    clear hW
    generalize W16.heap.size = q14 at *
    clear W16
    have g18 := fun d os => cell_regrown (H.at_ 0 rfl) d os
    refine seq_tail 2 (fun Q hQ => ?_)
    simp only [List.take_succ_cons, List.take_zero, List.drop_succ_cons, List.drop_zero]
    repeat (quiet_step (first | exact Calls.regrown_of (valB_c _ _)))
    refine wpQuiet_nil ?_
    clear g18
    intro W19 hw
    replace H := H.regrown hw
    clear hw W17
    have t1 := G4.out
    go_upto_region 6 with (fail)
    clear t1
    have e20 := H.at_ 1 rfl
    refine QTail.wp_region_fun (fun i => [fl lt, fl lt, fl (negB lt), fl a2, fl (minB lt a2), undef, undef].getD i undef) [(5, 6, .float .f64 (minB lt a2))] (by kernel_rfl) (by kernel_rfl) (by kernel_rfl) ?_ ?_
    · refine ⟨?_, ?_⟩
      · simp only [QTail.kindOf]
        intro vs w' hb hd
        simp [QTail.DepsOK, Region.binds, QTail.isVal] at hd
        simp only [QTail.putA]
        have e20' := (hb.cell (block_lt_of_cell e20)).trans e20
        clear hb
        go_wp2
        exact Below.refl _ _
      refine ⟨?_, ?_⟩
      · simp only [QTail.kindOf]
        intro vs w' hb hd
        simp [QTail.DepsOK, Region.binds, QTail.isVal] at hd
        simp only [QTail.putA]
        have e20' := (hb.cell (block_lt_of_cell e20)).trans e20
        clear hb
        go_wp2
        exact Below.refl _ _
      refine ⟨?_, ?_⟩
      · simp only [QTail.kindOf]
        intro vs w' hb hd
        simp [QTail.DepsOK, Region.binds, QTail.isVal] at hd
        simp only [QTail.putA]
        clear hb
        go_wp2_with (refine (neg_c _ _).mono ?_; rintro e u ⟨rfl, hb1⟩)
        try exact hb1
      refine ⟨?_, ?_⟩
      · simp only [QTail.kindOf]
        intro vs w' hb hd
        simp [QTail.DepsOK, Region.binds, QTail.isVal] at hd
        simp only [QTail.putA]
        clear hb
        go_wp2_with (refine (addK_c _ _ _ _ G5.out).mono ?_; rintro e u ⟨rfl, hb1⟩)
        try exact hb1
      refine ⟨?_, ?_⟩
      · simp only [QTail.kindOf]
        intro vs w' hb hd
        simp [QTail.DepsOK, Region.binds, QTail.isVal] at hd
        simp only [QTail.putA]
        clear hb
        go_wp2_with (refine (min2_c _ _ _).mono ?_; rintro e u ⟨rfl, hb1⟩)
        try exact hb1
      refine ⟨?_, ?_⟩
      · simp only [QTail.kindOf]
        intro vs w'
        simp only [QTail.putA]
        go_wp2
        exact ⟨_, _, rfl⟩
      refine ⟨?_, ?_⟩
      · simp only [QTail.kindOf]
        intro vs w' b x hb hd hc hf
        simp [QTail.DepsOK, Region.binds, QTail.isVal] at hd
        simp only [QTail.putA]
        go_wp2
      trivial
    · intro bk W21 hb hn hne
      obtain ⟨s0, f0, c0⟩ := hn (5, 6, .float .f64 (minB lt a2)) (by simp)
      simp only [] at s0 f0 c0
      clear e20 hn hne
      simp only [QTail.putA, QTail.fv, QTail.isVal]
      generalize bk 5 = q15 at *
      have L := H.lt
      have Z := H.bel.size
      replace H := H.add hb s0 c0 f0
      clear hb L Z s0 f0 c0 
      clear W19
      go_upto_region 7 with (fail)
      have g22 := fun d os => cell_regrown (H.at_ 0 rfl) d os
      refine seq_tail 2 (fun Q hQ => ?_)
      simp only [List.take_succ_cons, List.take_zero, List.drop_succ_cons, List.drop_zero]
      repeat (quiet_step (first | exact Calls.regrown_of (valB_c _ _)))
      refine wpQuiet_nil ?_
      clear g22
      intro W23 hw
      replace H := H.regrown hw
      clear hw W21
      have t1 := G6.out
      go_upto_region 8 with (fail)
      clear t1
      have g24 := fun d os => cell_regrown (H.at_ 6 rfl) d os
      have g25 := fun d os => cell_regrown (H.at_ 2 rfl) d os
      have g26 := fun d os => cell_regrown (H.at_ 0 rfl) d os
      refine drawn_tail 5 (by kernel_rfl) (by kernel_rfl) (by kernel_rfl) (fun Q hQ => ?_)
      simp only [List.take_succ_cons, List.take_zero, List.drop_succ_cons, List.drop_zero]
      repeat (quiet_step (first | exact Calls.regrown_of (sub_c _ _ _ _ G7.out) | exact Calls.regrown_of (div_c _ _ _ _ G8.out)))
      refine wpQuiet_nil ?_
      clear g24 g25 g26
      intro W27 hw
      replace H := H.regrown hw
      clear hw W23
      have cz := H.at_ 3 rfl
      have fz := H.fz 3 rfl
      go_upto_region 9 with (fail)
      clear cz fz
      refine wp_gen fun W28 hW => ?_
      replace H : CL w [(q15, (minB lt a2)), (q14, d), (q13, lt), (q12, sat), (q11, 9221120237041090561), (q10, (minB (minB r g) b)), (q9, (maxB (maxB r g) b)), (w.heap.size + 1 + 1 + 1 + 1 + 1, 0), (w.heap.size + 1 + 1 + 1 + 1, 0), (w.heap.size + 1 + 1 + 1, 0), (w.heap.size + 1 + 1, b), (w.heap.size + 1, g), (w.heap.size, r)] W28 := by rw [hW]; exact H.set 3 sat rfl
      clear hW W27
      have ca := H.at_ 6 rfl; have cr := H.at_ 12 rfl; have cg := H.at_ 11 rfl; have cb := H.at_ 10 rfl
      have ke := eql_fl
      have t1 := G9.out; have t2 := G10.out; have t3 := G11.out
      go_upto_region 17 with (fail)
      clear t1 t2 t3 ca cr cg cb ke
      have g29 := fun d os => cell_regrown (H.at_ 12 rfl) d os
      have g30 := fun d os => cell_regrown (H.at_ 11 rfl) d os
      have g31 := fun d os => cell_regrown (H.at_ 1 rfl) d os
      refine drawn_tail 6 (by kernel_rfl) (by kernel_rfl) (by kernel_rfl) (fun Q hQ => ?_)
      simp only [List.take_succ_cons, List.take_zero, List.drop_succ_cons, List.drop_zero]
      repeat (quiet_step (first | exact Calls.regrown_of (sub_c _ _ _ _ G12.out) | exact Calls.regrown_of (div_c _ _ _ _ G13.out) | exact Calls.regrown_of (addK_c _ _ _ _ G14.out)))
      refine wpQuiet_nil ?_
      clear g29 g30 g31
      intro W32 hw
      replace H := H.regrown hw
      clear hw W28
      have cz := H.at_ 4 rfl
      have fz := H.fz 4 rfl
      go_upto_region 18 with (fail)
      clear cz fz
      refine wp_gen fun W33 hW => ?_
      replace H : CL w [(q15, (minB lt a2)), (q14, d), (q13, lt), (q12, sat), (q11, h), (q10, (minB (minB r g) b)), (q9, (maxB (maxB r g) b)), (w.heap.size + 1 + 1 + 1 + 1 + 1, 0), (w.heap.size + 1 + 1 + 1 + 1, 0), (w.heap.size + 1 + 1 + 1, 0), (w.heap.size + 1 + 1, b), (w.heap.size + 1, g), (w.heap.size, r)] W33 := by rw [hW]; exact H.set 4 h rfl
      clear hW W32
      have g34 := fun d os => cell_regrown (H.at_ 4 rfl) d os
      refine seq_tail 2 (fun Q hQ => ?_)
      simp only [List.take_succ_cons, List.take_zero, List.drop_succ_cons, List.drop_zero]
      repeat (quiet_step (first | exact Calls.regrown_of (mulK_c _ _ _ _ G15.out)))
      refine wpQuiet_nil ?_
      clear g34
      intro W35 hw
      replace H := H.regrown hw
      clear hw W33
      have cz := H.at_ 4 rfl
      have fz := H.fz 4 rfl
      go_upto_region 19 with (fail)
      clear cz fz
      refine wp_gen fun W36 hW => ?_
      replace H : CL w [(q15, (minB lt a2)), (q14, d), (q13, lt), (q12, sat), (q11, h1), (q10, (minB (minB r g) b)), (q9, (maxB (maxB r g) b)), (w.heap.size + 1 + 1 + 1 + 1 + 1, 0), (w.heap.size + 1 + 1 + 1 + 1, 0), (w.heap.size + 1 + 1 + 1, 0), (w.heap.size + 1 + 1, b), (w.heap.size + 1, g), (w.heap.size, r)] W36 := by rw [hW]; exact H.set 4 h1 rfl
      clear hW W35
      have g37 := fun d os => cell_regrown (H.at_ 4 rfl) d os
      have g38 := fun d os => cell_regrown (H.at_ 3 rfl) d os
      have g39 := fun d os => cell_regrown (H.at_ 2 rfl) d os
      refine drawn_tail 5 (by kernel_rfl) (by kernel_rfl) (by kernel_rfl) (fun Q hQ => ?_)
      simp only [List.take_succ_cons, List.take_zero, List.drop_succ_cons, List.drop_zero]
      repeat (quiet_step (first | exact Calls.regrown_of (mulK_c _ _ _ _ G16.out) | exact Calls.regrown_of (mulK_c _ _ _ _ G17.out)))
      refine wpQuiet_nil ?_
      clear g37 g38 g39
      intro W40 hw
      replace H := H.regrown hw
      clear hw W36
      have d0 := H.at_ 9 rfl; have f0 := H.fz 9 rfl
      have d1 := H.at_ 8 rfl; have f1 := H.fz 8 rfl
      have d2 := H.at_ 7 rfl; have f2 := H.fz 7 rfl
      have hB := (((H.set 9 h1 rfl).set 8 s1 rfl).set 7 l1 rfl).bel
      clear H
      go_wp2
      exact bodyPost_ret (v := .tuple #[fl h1, fl s1, fl l1]) (by simp [results, Try.results25, go_sem, d0, d1, d2]) rfl ⟨rfl, hB⟩
set_option maxRecDepth 100000 in
set_option maxHeartbeats 2000000 in
theorem zz_hsl (x wh bl u0 u8 u4 : Nat) (w : World) (F : ∀ w : World, Calls Try.prog 25 #[fl x, fl wh, fl bl] w fun e w' => e = .returned (.tuple #[fl u0, fl u8, fl u4]) ∧ Below w.heap.size w w') :
    Calls Try.prog 17 #[.float .f64 x, .float .f64 wh, .float .f64 bl] w fun e w' => e = .returned (.tuple #[.float .f64 u0, .float .f64 u8, .float .f64 u4]) ∧ Below w.heap.size w w' := by
  have st := st_fl
  have G := Lib.hid F
  clear F
  go_enter Try.func17, Try.ntmps17
  go_wp2_with (first | (go_at_call 20; refine (new_c _ _).mono ?_; rintro e w' ⟨rfl, rfl⟩) | (go_at_call 25; (with_reducible refine (G.out _).mono ?_); rintro e w' ⟨rfl, hb⟩; replace hb := (show Below w.heap.size w _ by repeat (first | exact Below.refl _ _ | refine Below.alloc ?_ (by first | omega | (simp <;> omega)) _)).trans (hb.mono (by first | omega | (simp <;> omega)))))
  refine wp_gen fun W0 hW => ?_
  have H : CL w [(w'.heap.size + 1 + 1, u4), (w'.heap.size + 1, u8), (w'.heap.size, u0)] W0 := by
    rw [hW]
    have := (((CL.ofB hb).new u0 38).new u8 38).new u4 38
    simpa using this
  clear hW hb
  have g1 := fun d os => cell_regrown (H.at_ 0 rfl) d os
  have g2 := fun d os => cell_regrown (H.at_ 1 rfl) d os
  have g3 := fun d os => cell_regrown (H.at_ 2 rfl) d os
  refine wp_region_quiet_below (by kernel_rfl) (by kernel_rfl) ?_
  repeat (quiet_step (exact Calls.regrown_of (valB_c _ _)))
  refine wpQuiet_nil ?_
  clear g1 g2 g3
  intro W hw
  have hB := (H.regrown hw).bel
  clear H hw
  go_wp2
  go_ret3
  exact ⟨rfl, hB⟩
end Go.Proofs.Ytanaamlkiackbaa

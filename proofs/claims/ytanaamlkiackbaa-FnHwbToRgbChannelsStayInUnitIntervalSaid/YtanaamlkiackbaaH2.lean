/- Contracts of hsl_to_rgb, hwb_to_rgb and of hwb_to_rgb's thin export. -/
import Derived.Test.YtanaamlkiackbaaH1
set_option linter.unusedSimpArgs false
set_option linter.unusedVariables false
namespace Go.Proofs.Ytanaamlkiackbaa
open Go.RowKit Go.Sort
open Flt Ieee
open QTail (ptr)
/-- one channel, as the closure of hsl_to_rgb reckons it -/
def Chan (n h l s r : Nat) : Prop := ∃ k1 k2 k3 k5 k6 a2 a b1 b3 b6, floatBits .quo .f64 h 4629137466983448576 = some k1 ∧ floatBits .add .f64 k1 n = some k2 ∧ floatBits .quo .f64 k2 4622945017495814144 = some k3 ∧ fin k3 ∧ floatBits .sub .f64 k3 (floorB k3) = some k5 ∧
    floatBits .mul .f64 k5 4622945017495814144 = some k6 ∧ floatBits .add .f64 (negB l) 4607182418800017408 = some a2 ∧ floatBits .mul .f64 (minB l a2) s = some a ∧
    floatBits .sub .f64 k6 4613937818241073152 = some b1 ∧ floatBits .add .f64 (negB k6) 4621256167635550208 = some b3 ∧
    floatBits .mul .f64 (maxB 13830554455654793216 (minB (minB b1 b3) 4607182418800017408)) a = some b6 ∧ floatBits .sub .f64 l b6 = some r
theorem chan_c (n h l s r p1 p2 p3 : Nat) (w : World) (c1 : w.cell? ⟨p1, 0, none⟩ = some (.float .f64 h)) (c2 : w.cell? ⟨p2, 0, none⟩ = some (.float .f64 l)) (c3 : w.cell? ⟨p3, 0, none⟩ = some (.float .f64 s)) (F : Chan n h l s r) :
    Calls Try.prog 44 #[.float .f64 n, ptr p1, ptr p2, ptr p3] w fun e w' => e = .returned (fl r) ∧ Below w.heap.size w w' := by
  obtain ⟨k1, k2, k3, k5, k6, a2, a, b1, b3, b6, F1, F2, F3, F4, F5, F6, F7, F8, F9, F10, F11, F12⟩ := F
  exact f44_c n h l s k1 k2 k3 k5 k6 a2 a b1 b3 b6 r p1 p2 p3 w c1 c2 c3 F1 F2 F3 F4 F5 F6 F7 F8 F9 F10 F11 F12
set_option maxRecDepth 100000 in
set_option maxHeartbeats 2000000 in
theorem hsl_c (x s0 l0 h1 h2 h3 s l r0 r8 r4 : Nat) (w : World) (F1 : floatBits .quo .f64 x 4645040803167600640 = some h1) (F2 : fin h1) (F3 : floatBits .sub .f64 h1 (floorB h1) = some h2) (F4 : floatBits .mul .f64 h2 4645040803167600640 = some h3)
    (F5 : floatBits .quo .f64 s0 4636737291354636288 = some s) (F6 : floatBits .quo .f64 l0 4636737291354636288 = some l) (F7 : Chan 0 h3 l s r0) (F8 : Chan 4620693217682128896 h3 l s r8) (F9 : Chan 4616189618054758400 h3 l s r4) :
    Calls Try.prog 35 #[fl x, fl s0, fl l0] w fun e w' => e = .returned (.tuple #[fl r0, fl r8, fl r4]) ∧ Below w.heap.size w w' := by
  have st := st_fl
  have G1 := Lib.hid F1; have G2 := Lib.hid F2; have G3 := Lib.hid F3; have G4 := Lib.hid F4; have G5 := Lib.hid F5; have G6 := Lib.hid F6; have G7 := Lib.hid F7; have G8 := Lib.hid F8; have G9 := Lib.hid F9
  clear F1 F2 F3 F4 F5 F6 F7 F8 F9
  go_enter Try.func35, Try.ntmps35
  go_upto_region 1 with (fail)
  refine wp_gen fun W0 hW => ?_
  have H : CL w [(w.heap.size + 1 + 1 + 1 + 1 + 1, 0), (w.heap.size + 1 + 1 + 1 + 1, 0), (w.heap.size + 1 + 1 + 1, 0), (w.heap.size + 1 + 1, l0), (w.heap.size + 1, s0), (w.heap.size, x)] W0 := by rw [hW]; have := ((((((CL.start w).new x 38).new s0 38).new l0 38).new 0 38).new 0 38).new 0 38; simpa using this
  clear hW
  have g1 := fun d os => cell_regrown (H.at_ 5 rfl) d os
  refine seq_tail 2 (fun Q hQ => ?_)
  simp only [List.take_succ_cons, List.take_zero, List.drop_succ_cons, List.drop_zero]
  repeat (quiet_step (first | exact Calls.regrown_of (divK_c _ _ _ _ G1.out)))
  refine wpQuiet_nil ?_
  clear g1
  intro W2 hw
  replace H := H.regrown hw
  clear hw W0
  have cz := H.at_ 5 rfl
  have fz := H.fz 5 rfl
  go_upto_region 2 with (fail)
  clear cz fz
  refine wp_gen fun W3 hW => ?_
  replace H : CL w [(w.heap.size + 1 + 1 + 1 + 1 + 1, 0), (w.heap.size + 1 + 1 + 1 + 1, 0), (w.heap.size + 1 + 1 + 1, 0), (w.heap.size + 1 + 1, l0), (w.heap.size + 1, s0), (w.heap.size, h1)] W3 := by rw [hW]; exact H.set 5 h1 rfl
  clear hW W2
  have g4 := fun d os => cell_regrown (H.at_ 5 rfl) d os
  refine drawn_tail 4 (by kernel_rfl) (by kernel_rfl) (by kernel_rfl) (fun Q hQ => ?_)
  simp only [List.take_succ_cons, List.take_zero, List.drop_succ_cons, List.drop_zero]
  repeat (quiet_step (first | exact Calls.regrown_of (floorF_c _ _ G2.out) | exact Calls.regrown_of (sub_c _ _ _ _ G3.out)))
  refine wpQuiet_nil ?_
  clear g4
  intro W5 hw
  replace H := H.regrown hw
  clear hw W3
  have cz := H.at_ 5 rfl
  have fz := H.fz 5 rfl
  go_upto_region 3 with (fail)
  clear cz fz
  refine wp_gen fun W6 hW => ?_
  replace H : CL w [(w.heap.size + 1 + 1 + 1 + 1 + 1, 0), (w.heap.size + 1 + 1 + 1 + 1, 0), (w.heap.size + 1 + 1 + 1, 0), (w.heap.size + 1 + 1, l0), (w.heap.size + 1, s0), (w.heap.size, h2)] W6 := by rw [hW]; exact H.set 5 h2 rfl
  clear hW W5
  have g7 := fun d os => cell_regrown (H.at_ 5 rfl) d os
  refine seq_tail 2 (fun Q hQ => ?_)
  simp only [List.take_succ_cons, List.take_zero, List.drop_succ_cons, List.drop_zero]
  repeat (quiet_step (first | exact Calls.regrown_of (mulK_c _ _ _ _ G4.out)))
  refine wpQuiet_nil ?_
  clear g7
  intro W8 hw
  replace H := H.regrown hw
  clear hw W6
  have cz := H.at_ 5 rfl
  have fz := H.fz 5 rfl
  go_upto_region 4 with (fail)
  clear cz fz
  refine wp_gen fun W9 hW => ?_
  replace H : CL w [(w.heap.size + 1 + 1 + 1 + 1 + 1, 0), (w.heap.size + 1 + 1 + 1 + 1, 0), (w.heap.size + 1 + 1 + 1, 0), (w.heap.size + 1 + 1, l0), (w.heap.size + 1, s0), (w.heap.size, h3)] W9 := by rw [hW]; exact H.set 5 h3 rfl
  clear hW W8
  have g10 := fun d os => cell_regrown (H.at_ 4 rfl) d os
  refine seq_tail 2 (fun Q hQ => ?_)
  simp only [List.take_succ_cons, List.take_zero, List.drop_succ_cons, List.drop_zero]
  repeat (quiet_step (first | exact Calls.regrown_of (divK_c _ _ _ _ G5.out)))
  refine wpQuiet_nil ?_
  clear g10
  intro W11 hw
  replace H := H.regrown hw
  clear hw W9
  have cz := H.at_ 4 rfl
  have fz := H.fz 4 rfl
  go_upto_region 5 with (fail)
  clear cz fz
  refine wp_gen fun W12 hW => ?_
  replace H : CL w [(w.heap.size + 1 + 1 + 1 + 1 + 1, 0), (w.heap.size + 1 + 1 + 1 + 1, 0), (w.heap.size + 1 + 1 + 1, 0), (w.heap.size + 1 + 1, l0), (w.heap.size + 1, s), (w.heap.size, h3)] W12 := by rw [hW]; exact H.set 4 s rfl
  clear hW W11
  have g13 := fun d os => cell_regrown (H.at_ 3 rfl) d os
  refine seq_tail 2 (fun Q hQ => ?_)
  simp only [List.take_succ_cons, List.take_zero, List.drop_succ_cons, List.drop_zero]
  repeat (quiet_step (first | exact Calls.regrown_of (divK_c _ _ _ _ G6.out)))
  refine wpQuiet_nil ?_
  clear g13
  intro W14 hw
  replace H := H.regrown hw
  clear hw W12
  have cz := H.at_ 3 rfl
  have fz := H.fz 3 rfl
  go_upto_region 7 with (fail)
  clear cz fz
  refine wp_gen fun W15 hW => ?_
  replace H : CL w [(w.heap.size + 1 + 1 + 1 + 1 + 1, 0), (w.heap.size + 1 + 1 + 1 + 1, 0), (w.heap.size + 1 + 1 + 1, 0), (w.heap.size + 1 + 1, l), (w.heap.size + 1, s), (w.heap.size, h3)] W15 := by rw [hW]; exact H.set 3 l rfl
  clear hW W14
  have g16 := fun d os => cell_regrown (H.at_ 5 rfl) d os
  have g17 := fun d os => cell_regrown (H.at_ 3 rfl) d os
  have g18 := fun d os => cell_regrown (H.at_ 4 rfl) d os
  refine seq_tail 6 (fun Q hQ => ?_)
  simp only [List.take_succ_cons, List.take_zero, List.drop_succ_cons, List.drop_zero]
  repeat (quiet_step (first | exact Calls.regrown_of (chan_c _ _ _ _ _ _ _ _ _ (g16 _ _) (g17 _ _) (g18 _ _) G7.out) | exact Calls.regrown_of (chan_c _ _ _ _ _ _ _ _ _ (g16 _ _) (g17 _ _) (g18 _ _) G8.out) | exact Calls.regrown_of (chan_c _ _ _ _ _ _ _ _ _ (g16 _ _) (g17 _ _) (g18 _ _) G9.out)))
  refine wpQuiet_nil ?_
  clear g16 g17 g18
  intro W19 hw
  replace H := H.regrown hw
  clear hw W15
  have c0 := H.at_ 0 rfl; have f0 := H.fz 0 rfl; have c1 := H.at_ 1 rfl; have f1 := H.fz 1 rfl; have c2 := H.at_ 2 rfl; have f2 := H.fz 2 rfl
  have hB := (((H.set 2 r0 rfl).set 1 r8 rfl).set 0 r4 rfl).bel
  clear H
  go_wp2
  exact bodyPost_ret (v := .tuple #[fl r0, fl r8, fl r4]) (by simp [results, Try.results35, go_sem, c0, c1, c2]) rfl ⟨rfl, hB⟩
set_option maxRecDepth 100000 in
set_option maxHeartbeats 2000000 in
theorem hwb_gray (x wh bl a b s r : Nat) (w : World) (F1 : floatBits .quo .f64 wh 4636737291354636288 = some a) (F2 : floatBits .quo .f64 bl 4636737291354636288 = some b) (F3 : floatBits .add .f64 a b = some s) (F4 : geB s 4607182418800017408 = true) (F5 : floatBits .quo .f64 a s = some r) :
    Calls Try.prog 23 #[fl x, fl wh, fl bl] w fun e w' => e = .returned (.tuple #[fl r, fl r, fl r]) ∧ Below w.heap.size w w' := by
  have st := st_fl
  have G1 := Lib.hid F1; have G2 := Lib.hid F2; have G3 := Lib.hid F3; have G4 := Lib.hid F4; have G5 := Lib.hid F5
  clear F1 F2 F3 F4 F5
  go_enter Try.func23, Try.ntmps23
  go_upto_region 1 with (fail)
  refine wp_gen fun W0 hW => ?_
  have H : CL w [(w.heap.size + 1 + 1 + 1 + 1 + 1, 0), (w.heap.size + 1 + 1 + 1 + 1, 0), (w.heap.size + 1 + 1 + 1, 0), (w.heap.size + 1 + 1, bl), (w.heap.size + 1, wh), (w.heap.size, x)] W0 := by rw [hW]; have := ((((((CL.start w).new x 38).new wh 38).new bl 38).new 0 38).new 0 38).new 0 38; simpa using this
  clear hW
  have g1 := fun d os => cell_regrown (H.at_ 4 rfl) d os
  refine seq_tail 2 (fun Q hQ => ?_)
  simp only [List.take_succ_cons, List.take_zero, List.drop_succ_cons, List.drop_zero]
  repeat (quiet_step (first | exact Calls.regrown_of (divK_c _ _ _ _ G1.out)))
  refine wpQuiet_nil ?_
  clear g1
  intro W2 hw
  replace H := H.regrown hw
  clear hw W0
  have cz := H.at_ 4 rfl
  have fz := H.fz 4 rfl
  go_upto_region 2 with (fail)
  clear cz fz
  refine wp_gen fun W3 hW => ?_
  replace H : CL w [(w.heap.size + 1 + 1 + 1 + 1 + 1, 0), (w.heap.size + 1 + 1 + 1 + 1, 0), (w.heap.size + 1 + 1 + 1, 0), (w.heap.size + 1 + 1, bl), (w.heap.size + 1, a), (w.heap.size, x)] W3 := by rw [hW]; exact H.set 4 a rfl
  clear hW W2
  have g4 := fun d os => cell_regrown (H.at_ 3 rfl) d os
  refine seq_tail 2 (fun Q hQ => ?_)
  simp only [List.take_succ_cons, List.take_zero, List.drop_succ_cons, List.drop_zero]
  repeat (quiet_step (first | exact Calls.regrown_of (divK_c _ _ _ _ G2.out)))
  refine wpQuiet_nil ?_
  clear g4
  intro W5 hw
  replace H := H.regrown hw
  clear hw W3
  have cz := H.at_ 3 rfl
  have fz := H.fz 3 rfl
  go_upto_region 3 with (fail)
  clear cz fz
  refine wp_gen fun W6 hW => ?_
  replace H : CL w [(w.heap.size + 1 + 1 + 1 + 1 + 1, 0), (w.heap.size + 1 + 1 + 1 + 1, 0), (w.heap.size + 1 + 1 + 1, 0), (w.heap.size + 1 + 1, b), (w.heap.size + 1, a), (w.heap.size, x)] W6 := by rw [hW]; exact H.set 3 b rfl
  clear hW W5
  have g7 := fun d os => cell_regrown (H.at_ 4 rfl) d os
  have g8 := fun d os => cell_regrown (H.at_ 3 rfl) d os
  refine seq_tail 4 (fun Q hQ => ?_)
  simp only [List.take_succ_cons, List.take_zero, List.drop_succ_cons, List.drop_zero]
  repeat (quiet_step (first | exact Calls.regrown_of (add_c _ _ _ _ G3.out) | exact Calls.regrown_of (valB_c _ _)))
  refine wpQuiet_nil ?_
  clear g7 g8
  intro W9 hw
  replace H := H.regrown hw
  clear hw W6
  have t1 : (FloatKind.f64.format.order s 4607182418800017408 == some .gt || FloatKind.f64.format.order s 4607182418800017408 == some .eq) = true := G4.out
  go_upto_region 4 with (fail)
  clear t1
  have e10 := H.at_ 4 rfl
  have e11 := H.at_ 3 rfl
  refine QTail.wp_region_fun (fun i => [fl a, fl a, fl b, fl s, fl r, undef, undef].getD i undef) [(5, 6, .float .f64 r)] (by kernel_rfl) (by kernel_rfl) (by kernel_rfl) ?_ ?_
  · refine ⟨?_, ?_⟩
    · simp only [QTail.kindOf]
      intro vs w' hb hd
      simp [QTail.DepsOK, Region.binds, QTail.isVal] at hd
      simp only [QTail.putA]
      have e10' := (hb.cell (block_lt_of_cell e10)).trans e10
      have e11' := (hb.cell (block_lt_of_cell e11)).trans e11
      clear hb
      go_wp2
      exact Below.refl _ _
    refine ⟨?_, ?_⟩
    · simp only [QTail.kindOf]
      intro vs w' hb hd
      simp [QTail.DepsOK, Region.binds, QTail.isVal] at hd
      simp only [QTail.putA]
      have e10' := (hb.cell (block_lt_of_cell e10)).trans e10
      have e11' := (hb.cell (block_lt_of_cell e11)).trans e11
      clear hb
      go_wp2
      exact Below.refl _ _
    refine ⟨?_, ?_⟩
    · simp only [QTail.kindOf]
      intro vs w' hb hd
      simp [QTail.DepsOK, Region.binds, QTail.isVal] at hd
      simp only [QTail.putA]
      have e10' := (hb.cell (block_lt_of_cell e10)).trans e10
      have e11' := (hb.cell (block_lt_of_cell e11)).trans e11
      clear hb
      go_wp2
      exact Below.refl _ _
    refine ⟨?_, ?_⟩
    · simp only [QTail.kindOf]
      intro vs w' hb hd
      simp [QTail.DepsOK, Region.binds, QTail.isVal] at hd
      simp only [QTail.putA]
      clear hb
      go_wp2_with (refine (add_c _ _ _ _ G3.out).mono ?_; rintro e u ⟨rfl, hb1⟩)
      try exact hb1
    refine ⟨?_, ?_⟩
    · simp only [QTail.kindOf]
      intro vs w' hb hd
      simp [QTail.DepsOK, Region.binds, QTail.isVal] at hd
      simp only [QTail.putA]
      clear hb
      go_wp2_with (refine (div_c _ _ _ _ G5.out).mono ?_; rintro e u ⟨rfl, hb1⟩)
      try exact hb1
    refine ⟨?_, ?_⟩
    · simp only [QTail.kindOf]
      intro vs w'
      simp only [QTail.putA]
      go_wp2
      exact ⟨_, _, rfl⟩
    refine ⟨?_, ?_⟩
    · simp only [QTail.kindOf]
      intro vs w' b x hb hd hc hf
      simp [QTail.DepsOK, Region.binds, QTail.isVal] at hd
      simp only [QTail.putA]
      go_wp2
    trivial
  · intro bk W12 hb hn hne
    obtain ⟨s0, f0, c0⟩ := hn (5, 6, .float .f64 r) (by simp)
    simp only [] at s0 f0 c0
    clear e10 e11 hn hne
    simp only [QTail.putA, QTail.fv, QTail.isVal]
    generalize bk 5 = q1 at *
    have L := H.lt
    have Z := H.bel.size
    replace H := H.add hb s0 c0 f0
    clear hb L Z s0 f0 c0 
    clear W9
    go_upto_region 5 with (fail)
    have c0 := H.at_ 0 rfl
    have d0 := H.at_ 3 rfl; have f0 := H.fz 3 rfl
    have d1 := H.at_ 2 rfl; have f1 := H.fz 2 rfl
    have d2 := H.at_ 1 rfl; have f2 := H.fz 1 rfl
    have hB := (((H.set 3 r rfl).set 2 r rfl).set 1 r rfl).bel.drew
    have nq1_3 : q1 ≠ w.heap.size + 1 + 1 + 1 := by have := H.2.1; simp only [List.map_cons, List.nodup_cons, List.mem_cons, not_or] at this; grind
    have nq1_2 : q1 ≠ w.heap.size + 1 + 1 + 1 + 1 := by have := H.2.1; simp only [List.map_cons, List.nodup_cons, List.mem_cons, not_or] at this; grind
    have nq1_1 : q1 ≠ w.heap.size + 1 + 1 + 1 + 1 + 1 := by have := H.2.1; simp only [List.map_cons, List.nodup_cons, List.mem_cons, not_or] at this; grind
    clear H
    go_region
    all_goals
      go_wp2
      exact bodyPost_ret (v := .tuple #[fl r, fl r, fl r]) (by simp [results, Try.results23, go_sem, d0, d1, d2]) rfl ⟨rfl, hB⟩
/-- what hsl_to_rgb reckons at full saturation and half lightness -/
def Hsl (x r0 r8 r4 : Nat) : Prop := ∃ h1 h2 h3 s l, floatBits .quo .f64 x 4645040803167600640 = some h1 ∧ fin h1 ∧ floatBits .sub .f64 h1 (floorB h1) = some h2 ∧ floatBits .mul .f64 h2 4645040803167600640 = some h3 ∧
    floatBits .quo .f64 4636737291354636288 4636737291354636288 = some s ∧ floatBits .quo .f64 4632233691727265792 4636737291354636288 = some l ∧ Chan 0 h3 l s r0 ∧ Chan 4620693217682128896 h3 l s r8 ∧ Chan 4616189618054758400 h3 l s r4
theorem hsl_of (x r0 r8 r4 : Nat) (w : World) (F : Hsl x r0 r8 r4) : Calls Try.prog 35 #[fl x, fl 4636737291354636288, fl 4632233691727265792] w fun e w' => e = .returned (.tuple #[fl r0, fl r8, fl r4]) ∧ Below w.heap.size w w' := by
  obtain ⟨h1, h2, h3, s, l, F1, F2, F3, F4, F5, F6, F7, F8, F9⟩ := F
  exact hsl_c x _ _ h1 h2 h3 s l r0 r8 r4 w F1 F2 F3 F4 F5 F6 F7 F8 F9
set_option maxRecDepth 100000 in
set_option maxHeartbeats 4000000 in
theorem hwb_mix (x wh bl a b s d r0 r8 r4 m0 m8 m4 u0 u8 u4 : Nat) (w : World) (F1 : floatBits .quo .f64 wh 4636737291354636288 = some a) (F2 : floatBits .quo .f64 bl 4636737291354636288 = some b) (F3 : floatBits .add .f64 a b = some s) (F4 : geB s 4607182418800017408 = false)
    (F5 : floatBits .add .f64 (negB s) 4607182418800017408 = some d) (F6 : Hsl x r0 r8 r4) (F7 : floatBits .mul .f64 d r0 = some m0) (F8 : floatBits .mul .f64 d r8 = some m8) (F9 : floatBits .mul .f64 d r4 = some m4)
    (F10 : floatBits .add .f64 m0 a = some u0) (F11 : floatBits .add .f64 m8 a = some u8) (F12 : floatBits .add .f64 m4 a = some u4) :
    Calls Try.prog 23 #[fl x, fl wh, fl bl] w fun e w' => e = .returned (.tuple #[fl u0, fl u8, fl u4]) ∧ Below w.heap.size w w' := by
  have st := st_fl
  have G1 := Lib.hid F1; have G2 := Lib.hid F2; have G3 := Lib.hid F3; have G4 := Lib.hid F4; have G5 := Lib.hid F5; have G6 := Lib.hid F6; have G7 := Lib.hid F7; have G8 := Lib.hid F8; have G9 := Lib.hid F9; have G10 := Lib.hid F10; have G11 := Lib.hid F11; have G12 := Lib.hid F12
  clear F1 F2 F3 F4 F5 F6 F7 F8 F9 F10 F11 F12
  go_enter Try.func23, Try.ntmps23
  go_upto_region 1 with (fail)
  refine wp_gen fun W0 hW => ?_
  have H : CL w [(w.heap.size + 1 + 1 + 1 + 1 + 1, 0), (w.heap.size + 1 + 1 + 1 + 1, 0), (w.heap.size + 1 + 1 + 1, 0), (w.heap.size + 1 + 1, bl), (w.heap.size + 1, wh), (w.heap.size, x)] W0 := by rw [hW]; have := ((((((CL.start w).new x 38).new wh 38).new bl 38).new 0 38).new 0 38).new 0 38; simpa using this
  clear hW
  have g1 := fun d os => cell_regrown (H.at_ 4 rfl) d os
  refine seq_tail 2 (fun Q hQ => ?_)
  simp only [List.take_succ_cons, List.take_zero, List.drop_succ_cons, List.drop_zero]
  repeat (quiet_step (first | exact Calls.regrown_of (divK_c _ _ _ _ G1.out)))
  refine wpQuiet_nil ?_
  clear g1
  intro W2 hw
  replace H := H.regrown hw
  clear hw W0
  have cz := H.at_ 4 rfl
  have fz := H.fz 4 rfl
  go_upto_region 2 with (fail)
  clear cz fz
  refine wp_gen fun W3 hW => ?_
  replace H : CL w [(w.heap.size + 1 + 1 + 1 + 1 + 1, 0), (w.heap.size + 1 + 1 + 1 + 1, 0), (w.heap.size + 1 + 1 + 1, 0), (w.heap.size + 1 + 1, bl), (w.heap.size + 1, a), (w.heap.size, x)] W3 := by rw [hW]; exact H.set 4 a rfl
  clear hW W2
  have g4 := fun d os => cell_regrown (H.at_ 3 rfl) d os
  refine seq_tail 2 (fun Q hQ => ?_)
  simp only [List.take_succ_cons, List.take_zero, List.drop_succ_cons, List.drop_zero]
  repeat (quiet_step (first | exact Calls.regrown_of (divK_c _ _ _ _ G2.out)))
  refine wpQuiet_nil ?_
  clear g4
  intro W5 hw
  replace H := H.regrown hw
  clear hw W3
  have cz := H.at_ 3 rfl
  have fz := H.fz 3 rfl
  go_upto_region 3 with (fail)
  clear cz fz
  refine wp_gen fun W6 hW => ?_
  replace H : CL w [(w.heap.size + 1 + 1 + 1 + 1 + 1, 0), (w.heap.size + 1 + 1 + 1 + 1, 0), (w.heap.size + 1 + 1 + 1, 0), (w.heap.size + 1 + 1, b), (w.heap.size + 1, a), (w.heap.size, x)] W6 := by rw [hW]; exact H.set 3 b rfl
  clear hW W5
  have g7 := fun d os => cell_regrown (H.at_ 4 rfl) d os
  have g8 := fun d os => cell_regrown (H.at_ 3 rfl) d os
  refine seq_tail 4 (fun Q hQ => ?_)
  simp only [List.take_succ_cons, List.take_zero, List.drop_succ_cons, List.drop_zero]
  repeat (quiet_step (first | exact Calls.regrown_of (add_c _ _ _ _ G3.out) | exact Calls.regrown_of (valB_c _ _)))
  refine wpQuiet_nil ?_
  clear g7 g8
  intro W9 hw
  replace H := H.regrown hw
  clear hw W6
  have t1 : (FloatKind.f64.format.order s 4607182418800017408 == some .gt || FloatKind.f64.format.order s 4607182418800017408 == some .eq) = false := G4.out
  go_upto_region 6 with (fail)
  clear t1
  have g10 := fun d os => cell_regrown (H.at_ 4 rfl) d os
  have g11 := fun d os => cell_regrown (H.at_ 3 rfl) d os
  refine seq_tail 5 (fun Q hQ => ?_)
  simp only [List.take_succ_cons, List.take_zero, List.drop_succ_cons, List.drop_zero]
  repeat (quiet_step (first | exact Calls.regrown_of (add_c _ _ _ _ G3.out) | exact Calls.regrown_of (neg_c _ _) | exact Calls.regrown_of (addK_c _ _ _ _ G5.out)))
  refine wpQuiet_nil ?_
  clear g10 g11
  intro W12 hw
  replace H := H.regrown hw
  clear hw W9
  go_upto_region 7 with (fail)
  refine wp_gen fun W13 hW => ?_
  replace H := H.new d 38
  rw [← hW] at H
  clear hW
  generalize W12.heap.size = q1 at *
  clear W12
  have e14 := H.at_ 6 rfl
  refine QTail.wp_region_fun (fun i => [fl x, fl 4636737291354636288, fl 4632233691727265792, .tuple #[fl r0, fl r8, fl r4], .tuple #[fl r0, fl r8, fl r4], fl r0, fl r8, fl r4, undef, undef, undef, undef, undef, undef].getD i undef) [(8, 11, .float .f64 r0), (9, 12, .float .f64 r8), (10, 13, .float .f64 r4)] (by kernel_rfl) (by kernel_rfl) (by kernel_rfl) ?_ ?_
  · refine ⟨?_, ?_⟩
    · simp only [QTail.kindOf]
      intro vs w' hb hd
      simp [QTail.DepsOK, Region.binds, QTail.isVal] at hd
      simp only [QTail.putA]
      have e14' := (hb.cell (block_lt_of_cell e14)).trans e14
      clear hb
      go_wp2
      exact Below.refl _ _
    refine ⟨?_, ?_⟩
    · simp only [QTail.kindOf]
      intro vs w' hb hd
      simp [QTail.DepsOK, Region.binds, QTail.isVal] at hd
      simp only [QTail.putA]
      clear hb
      go_wp2_with (refine (newB_c _ _).mono ?_; rintro e u ⟨rfl, hb1⟩)
      try exact hb1
    refine ⟨?_, ?_⟩
    · simp only [QTail.kindOf]
      intro vs w' hb hd
      simp [QTail.DepsOK, Region.binds, QTail.isVal] at hd
      simp only [QTail.putA]
      clear hb
      go_wp2_with (refine (newB_c _ _).mono ?_; rintro e u ⟨rfl, hb1⟩)
      try exact hb1
    refine ⟨?_, ?_⟩
    · simp only [QTail.kindOf]
      intro vs w' hb hd
      simp [QTail.DepsOK, Region.binds, QTail.isVal] at hd
      simp only [QTail.putA]
      clear hb
      go_wp2_with (refine (hsl_of _ _ _ _ _ G6.out).mono ?_; rintro e u ⟨rfl, hb1⟩)
      try exact hb1
    refine ⟨?_, ?_⟩
    · simp only [QTail.kindOf]
      intro vs w' hb hd
      simp [QTail.DepsOK, Region.binds, QTail.isVal] at hd
      simp only [QTail.putA]
      clear hb
      go_wp2
      exact Below.refl _ _
    refine ⟨?_, ?_⟩
    · simp only [QTail.kindOf]
      intro vs w' hb hd
      simp [QTail.DepsOK, Region.binds, QTail.isVal] at hd
      simp only [QTail.putA]
      clear hb
      go_wp2
      exact Below.refl _ _
    refine ⟨?_, ?_⟩
    · simp only [QTail.kindOf]
      intro vs w' hb hd
      simp [QTail.DepsOK, Region.binds, QTail.isVal] at hd
      simp only [QTail.putA]
      clear hb
      go_wp2
      exact Below.refl _ _
    refine ⟨?_, ?_⟩
    · simp only [QTail.kindOf]
      intro vs w' hb hd
      simp [QTail.DepsOK, Region.binds, QTail.isVal] at hd
      simp only [QTail.putA]
      clear hb
      go_wp2
      exact Below.refl _ _
    refine ⟨?_, ?_⟩
    · simp only [QTail.kindOf]
      intro vs w'
      simp only [QTail.putA]
      go_wp2
      exact ⟨_, _, rfl⟩
    refine ⟨?_, ?_⟩
    · simp only [QTail.kindOf]
      intro vs w'
      simp only [QTail.putA]
      go_wp2
      exact ⟨_, _, rfl⟩
    refine ⟨?_, ?_⟩
    · simp only [QTail.kindOf]
      intro vs w'
      simp only [QTail.putA]
      go_wp2
      exact ⟨_, _, rfl⟩
    refine ⟨?_, ?_⟩
    · simp only [QTail.kindOf]
      intro vs w' b x hb hd hc hf
      simp [QTail.DepsOK, Region.binds, QTail.isVal] at hd
      simp only [QTail.putA]
      go_wp2
    refine ⟨?_, ?_⟩
    · simp only [QTail.kindOf]
      intro vs w' b x hb hd hc hf
      simp [QTail.DepsOK, Region.binds, QTail.isVal] at hd
      simp only [QTail.putA]
      go_wp2
    refine ⟨?_, ?_⟩
    · simp only [QTail.kindOf]
      intro vs w' b x hb hd hc hf
      simp [QTail.DepsOK, Region.binds, QTail.isVal] at hd
      simp only [QTail.putA]
      go_wp2
    trivial
  · intro bk W15 hb hn hne
    obtain ⟨s0, f0, c0⟩ := hn (8, 11, .float .f64 r0) (by simp)
    obtain ⟨s1, f1, c1⟩ := hn (9, 12, .float .f64 r8) (by simp)
    have d01 := hne (8, 11, .float .f64 r0) (by simp) (9, 12, .float .f64 r8) (by simp) (by simp)
    obtain ⟨s2, f2, c2⟩ := hn (10, 13, .float .f64 r4) (by simp)
    have d02 := hne (8, 11, .float .f64 r0) (by simp) (10, 13, .float .f64 r4) (by simp) (by simp)
    have d12 := hne (9, 12, .float .f64 r8) (by simp) (10, 13, .float .f64 r4) (by simp) (by simp)
    simp only [] at s0 f0 c0 s1 f1 c1 s2 f2 c2 d01 d02 d12
    clear e14 hn hne
    simp only [QTail.putA, QTail.fv, QTail.isVal]
    generalize bk 8 = q2 at *
    generalize bk 9 = q3 at *
    generalize bk 10 = q4 at *
    have L := H.lt
    have Z := H.bel.size
    replace H := H.add hb s0 c0 f0
    replace H := H.add2 (Nat.le_trans Z s1) (by intro p hp; simp only [List.map_cons, List.mem_cons] at hp L; rcases hp with rfl | hp; (exact d01); (have := L p (by simpa using hp); omega)) c1 f1
    replace H := H.add2 (Nat.le_trans Z s2) (by intro p hp; simp only [List.map_cons, List.mem_cons] at hp L; rcases hp with rfl | rfl | hp; (exact d12); (exact d02); (have := L p (by simpa using hp); omega)) c2 f2
    clear hb L Z s0 f0 c0 s1 f1 c1 s2 f2 c2  d01 d02 d12
    clear W13
    go_upto_region 8 with (fail)
    have g16 := fun d os => cell_regrown (H.at_ 3 rfl) d os
    have g17 := fun d os => cell_regrown (H.at_ 2 rfl) d os
    have g18 := fun d os => cell_regrown (H.at_ 8 rfl) d os
    refine drawn_tail 5 (by kernel_rfl) (by kernel_rfl) (by kernel_rfl) (fun Q hQ => ?_)
    simp only [List.take_succ_cons, List.take_zero, List.drop_succ_cons, List.drop_zero]
    repeat (quiet_step (first | exact Calls.regrown_of (mul_c _ _ _ _ G7.out) | exact Calls.regrown_of (add_c _ _ _ _ G10.out)))
    refine wpQuiet_nil ?_
    clear g16 g17 g18
    intro W19 hw
    replace H := H.regrown hw
    clear hw W15
    have cz := H.at_ 2 rfl
    have fz := H.fz 2 rfl
    go_upto_region 9 with (fail)
    clear cz fz
    refine wp_gen fun W20 hW => ?_
    replace H : CL w [(q4, r4), (q3, r8), (q2, u0), (q1, d), (w.heap.size + 1 + 1 + 1 + 1 + 1, 0), (w.heap.size + 1 + 1 + 1 + 1, 0), (w.heap.size + 1 + 1 + 1, 0), (w.heap.size + 1 + 1, b), (w.heap.size + 1, a), (w.heap.size, x)] W20 := by rw [hW]; exact H.set 2 u0 rfl
    clear hW W19
    have g21 := fun d os => cell_regrown (H.at_ 3 rfl) d os
    have g22 := fun d os => cell_regrown (H.at_ 1 rfl) d os
    have g23 := fun d os => cell_regrown (H.at_ 8 rfl) d os
    refine drawn_tail 5 (by kernel_rfl) (by kernel_rfl) (by kernel_rfl) (fun Q hQ => ?_)
    simp only [List.take_succ_cons, List.take_zero, List.drop_succ_cons, List.drop_zero]
    repeat (quiet_step (first | exact Calls.regrown_of (mul_c _ _ _ _ G8.out) | exact Calls.regrown_of (add_c _ _ _ _ G11.out)))
    refine wpQuiet_nil ?_
    clear g21 g22 g23
    intro W24 hw
    replace H := H.regrown hw
    clear hw W20
    have cz := H.at_ 1 rfl
    have fz := H.fz 1 rfl
    go_upto_region 10 with (fail)
    clear cz fz
    refine wp_gen fun W25 hW => ?_
    replace H : CL w [(q4, r4), (q3, u8), (q2, u0), (q1, d), (w.heap.size + 1 + 1 + 1 + 1 + 1, 0), (w.heap.size + 1 + 1 + 1 + 1, 0), (w.heap.size + 1 + 1 + 1, 0), (w.heap.size + 1 + 1, b), (w.heap.size + 1, a), (w.heap.size, x)] W25 := by rw [hW]; exact H.set 1 u8 rfl
    clear hW W24
    have g26 := fun d os => cell_regrown (H.at_ 3 rfl) d os
    have g27 := fun d os => cell_regrown (H.at_ 0 rfl) d os
    have g28 := fun d os => cell_regrown (H.at_ 8 rfl) d os
    refine drawn_tail 5 (by kernel_rfl) (by kernel_rfl) (by kernel_rfl) (fun Q hQ => ?_)
    simp only [List.take_succ_cons, List.take_zero, List.drop_succ_cons, List.drop_zero]
    repeat (quiet_step (first | exact Calls.regrown_of (mul_c _ _ _ _ G9.out) | exact Calls.regrown_of (add_c _ _ _ _ G12.out)))
    refine wpQuiet_nil ?_
    clear g26 g27 g28
    intro W29 hw
    replace H := H.regrown hw
    clear hw W25
    have cz := H.at_ 0 rfl
    have fz := H.fz 0 rfl
    go_upto_region 11 with (fail)
    clear cz fz
    refine wp_gen fun W30 hW => ?_
    replace H : CL w [(q4, u4), (q3, u8), (q2, u0), (q1, d), (w.heap.size + 1 + 1 + 1 + 1 + 1, 0), (w.heap.size + 1 + 1 + 1 + 1, 0), (w.heap.size + 1 + 1 + 1, 0), (w.heap.size + 1 + 1, b), (w.heap.size + 1, a), (w.heap.size, x)] W30 := by rw [hW]; exact H.set 0 u4 rfl
    clear hW W29
    have c0 := H.at_ 2 rfl
    have c1 := H.at_ 1 rfl
    have c2 := H.at_ 0 rfl
    have d0 := H.at_ 6 rfl; have f0 := H.fz 6 rfl
    have d1 := H.at_ 5 rfl; have f1 := H.fz 5 rfl
    have d2 := H.at_ 4 rfl; have f2 := H.fz 4 rfl
    have hB := (((H.set 6 u0 rfl).set 5 u8 rfl).set 4 u4 rfl).bel.drew
    have nq2_6 : q2 ≠ w.heap.size + 1 + 1 + 1 := by have := H.2.1; simp only [List.map_cons, List.nodup_cons, List.mem_cons, not_or] at this; grind
    have nq2_5 : q2 ≠ w.heap.size + 1 + 1 + 1 + 1 := by have := H.2.1; simp only [List.map_cons, List.nodup_cons, List.mem_cons, not_or] at this; grind
    have nq2_4 : q2 ≠ w.heap.size + 1 + 1 + 1 + 1 + 1 := by have := H.2.1; simp only [List.map_cons, List.nodup_cons, List.mem_cons, not_or] at this; grind
    have nq3_6 : q3 ≠ w.heap.size + 1 + 1 + 1 := by have := H.2.1; simp only [List.map_cons, List.nodup_cons, List.mem_cons, not_or] at this; grind
    have nq3_5 : q3 ≠ w.heap.size + 1 + 1 + 1 + 1 := by have := H.2.1; simp only [List.map_cons, List.nodup_cons, List.mem_cons, not_or] at this; grind
    have nq3_4 : q3 ≠ w.heap.size + 1 + 1 + 1 + 1 + 1 := by have := H.2.1; simp only [List.map_cons, List.nodup_cons, List.mem_cons, not_or] at this; grind
    have nq4_6 : q4 ≠ w.heap.size + 1 + 1 + 1 := by have := H.2.1; simp only [List.map_cons, List.nodup_cons, List.mem_cons, not_or] at this; grind
    have nq4_5 : q4 ≠ w.heap.size + 1 + 1 + 1 + 1 := by have := H.2.1; simp only [List.map_cons, List.nodup_cons, List.mem_cons, not_or] at this; grind
    have nq4_4 : q4 ≠ w.heap.size + 1 + 1 + 1 + 1 + 1 := by have := H.2.1; simp only [List.map_cons, List.nodup_cons, List.mem_cons, not_or] at this; grind
    clear H
    go_region
    all_goals
      go_wp2
      exact bodyPost_ret (v := .tuple #[fl u0, fl u8, fl u4]) (by simp [results, Try.results23, go_sem, d0, d1, d2]) rfl ⟨rfl, hB⟩
set_option maxRecDepth 100000 in
set_option maxHeartbeats 2000000 in
theorem zz_hwb (x wh bl u0 u8 u4 : Nat) (w : World) (F : ∀ w : World, Calls Try.prog 23 #[fl x, fl wh, fl bl] w fun e w' => e = .returned (.tuple #[fl u0, fl u8, fl u4]) ∧ Below w.heap.size w w') :
    Calls Try.prog 12 #[.float .f64 x, .float .f64 wh, .float .f64 bl] w fun e w' => e = .returned (.tuple #[.float .f64 u0, .float .f64 u8, .float .f64 u4]) ∧ Below w.heap.size w w' := by
  have st := st_fl
  have G := Lib.hid F
  clear F
  go_enter Try.func12, Try.ntmps12
  go_wp2_with (first | (go_at_call 20; refine (new_c _ _).mono ?_; rintro e w' ⟨rfl, rfl⟩) | (go_at_call 23; (with_reducible refine (G.out _).mono ?_); rintro e w' ⟨rfl, hb⟩; replace hb := (show Below w.heap.size w _ by repeat (first | exact Below.refl _ _ | refine Below.alloc ?_ (by first | omega | (simp <;> omega)) _)).trans (hb.mono (by first | omega | (simp <;> omega)))))
  refine wp_gen fun W0 hW => ?_
  have H : CL w [(w'.heap.size + 1 + 1, u4), (w'.heap.size + 1, u8), (w'.heap.size, u0)] W0 := by
    rw [hW]
    have := (((CL.ofB hb).new u0 38).new u8 38).new u4 38
    simpa using this
  clear hW hb
  have g1 := fun d os => cell_regrown (H.at_ 0 rfl) d os
  have g2 := fun d os => cell_regrown (H.at_ 1 rfl) d os
  have g3 := fun d os => cell_regrown (H.at_ 2 rfl) d os
  refine wp_region_quiet_below (by kernel_rfl) (by kernel_rfl) ?_
  repeat (quiet_step (exact Calls.regrown_of (valB_c _ _)))
  refine wpQuiet_nil ?_
  clear g1 g2 g3
  intro W hw
  have hB := (H.regrown hw).bel
  clear H hw
  go_wp2
  go_ret3
  exact ⟨rfl, hB⟩
end Go.Proofs.Ytanaamlkiackbaa

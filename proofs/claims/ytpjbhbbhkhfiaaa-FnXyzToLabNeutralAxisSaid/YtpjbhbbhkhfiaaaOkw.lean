/- The walks of xyz_to_oklab and xyz_to_lab. -/
import Derived.Test.YtpjbhbbhkhfiaaaCw
import Derived.Test.YtpjbhbbhkhfiaaaMM
import Derived.Test.YtpjbhbbhkhfiaaaIF
import Derived.Deep.Cut
set_option linter.unusedSimpArgs false
set_option linter.unusedVariables false
namespace Go.Proofs.Ytpjbhbbhkhfiaaa
open Go.RowKit Go.Sort
open Flt Ieee
theorem after_call {W w' : World} (hb : Below W.heap.size W w') {a : Addr} {v : Value} (hc : W.cell? a = some v) : w'.cell? a = some v := by rw [hb.cell (block_lt_of_cell hc)]; exact hc
theorem after_frozen {W w' : World} (hb : Below W.heap.size W w') {a : Addr} {v : Value} (hc : W.cell? a = some v) (hf : W.frozen? a = false) : w'.frozen? a = false := by rw [hb.frozen (block_lt_of_cell hc)]; exact hf
theorem valB_c (f : Nat) (w : World) : Calls Try.prog 15 #[fl f] w fun e w' => e = .returned (.float .f64 f) ∧ Below w.heap.size w w' :=
  (val_c f w).mono fun e w' ⟨h1, h2⟩ => ⟨h1, by rw [← h2]; exact (Below.refl _ _).alloc (Nat.le_refl _) _⟩
set_option maxRecDepth 100000 in
set_option maxHeartbeats 4000000 in
theorem oklab_c (x y z l0 l1 l2 c0 c1 c2 r0 r1 r2 : Nat) (w : World) (h0 : Row 4605552317885431608 4600191143441610756 13817183224500110982 x y z l0) (h1 : Row 4584914268437469546 4606545491340083669 4585369816687053158 x y z l1) (h2 : Row 4587103887212223230 4598431736022207442 4603881711049788294 x y z l2) (k0 : CubP l0 c0) (k1 : CubP l1 c1) (k2 : CubP l2 c2) (g0 : Row 4596750433936516346 4605323493066877613 13794716809331944248 c0 c1 c2 r0) (g1 : Row 4611586932458118674 13836023159129529662 4601788794573910437 c0 c1 c2 r1) (g2 : Row 4583123551765604832 4605225800814425346 13828831160156894525 c0 c1 c2 r2) :
    Calls Try.prog 13 #[fl x, fl y, fl z] w fun e w' => e = .returned (.tuple #[fl r0, fl r1, fl r2]) ∧ Below w.heap.size w w' := by
  have st := st_fl
  have H0 := Lib.hid h0; have H1 := Lib.hid h1; have H2 := Lib.hid h2
  have G0 := Lib.hid g0; have G1 := Lib.hid g1; have G2 := Lib.hid g2
  have K0 := Lib.hid k0; have K1 := Lib.hid k1; have K2 := Lib.hid k2
  clear h0 h1 h2 g0 g1 g2 k0 k1 k2
  go_enter Try.func13, Try.ntmps13
  go_upto_region 3 with (fail)
  refine wp_gen fun W hW => ?_
  have q0 : W.cell? ⟨w.heap.size + 1 + 1 + 1 + 1 + 1 + 1, 0, none⟩ = some (.float .f64 4605552317885431608) := by rw [hW]; simp [go_sem]
  have q1 : W.cell? ⟨w.heap.size + 1 + 1 + 1 + 1 + 1 + 1, 1, none⟩ = some (.float .f64 4600191143441610756) := by rw [hW]; simp [go_sem]
  have q2 : W.cell? ⟨w.heap.size + 1 + 1 + 1 + 1 + 1 + 1, 2, none⟩ = some (.float .f64 13817183224500110982) := by rw [hW]; simp [go_sem]
  have q3 : W.cell? ⟨w.heap.size + 1 + 1 + 1 + 1 + 1 + 1, 3, none⟩ = some (.float .f64 4584914268437469546) := by rw [hW]; simp [go_sem]
  have q4 : W.cell? ⟨w.heap.size + 1 + 1 + 1 + 1 + 1 + 1, 4, none⟩ = some (.float .f64 4606545491340083669) := by rw [hW]; simp [go_sem]
  have q5 : W.cell? ⟨w.heap.size + 1 + 1 + 1 + 1 + 1 + 1, 5, none⟩ = some (.float .f64 4585369816687053158) := by rw [hW]; simp [go_sem]
  have q6 : W.cell? ⟨w.heap.size + 1 + 1 + 1 + 1 + 1 + 1, 6, none⟩ = some (.float .f64 4587103887212223230) := by rw [hW]; simp [go_sem]
  have q7 : W.cell? ⟨w.heap.size + 1 + 1 + 1 + 1 + 1 + 1, 7, none⟩ = some (.float .f64 4598431736022207442) := by rw [hW]; simp [go_sem]
  have q8 : W.cell? ⟨w.heap.size + 1 + 1 + 1 + 1 + 1 + 1, 8, none⟩ = some (.float .f64 4603881711049788294) := by rw [hW]; simp [go_sem]
  have p0 : W.cell? ⟨w.heap.size + 1 + 1 + 1 + 1 + 1 + 1 + 1, 0, none⟩ = some (.float .f64 4596750433936516346) := by rw [hW]; simp [go_sem]
  have p1 : W.cell? ⟨w.heap.size + 1 + 1 + 1 + 1 + 1 + 1 + 1, 1, none⟩ = some (.float .f64 4605323493066877613) := by rw [hW]; simp [go_sem]
  have p2 : W.cell? ⟨w.heap.size + 1 + 1 + 1 + 1 + 1 + 1 + 1, 2, none⟩ = some (.float .f64 13794716809331944248) := by rw [hW]; simp [go_sem]
  have p3 : W.cell? ⟨w.heap.size + 1 + 1 + 1 + 1 + 1 + 1 + 1, 3, none⟩ = some (.float .f64 4611586932458118674) := by rw [hW]; simp [go_sem]
  have p4 : W.cell? ⟨w.heap.size + 1 + 1 + 1 + 1 + 1 + 1 + 1, 4, none⟩ = some (.float .f64 13836023159129529662) := by rw [hW]; simp [go_sem]
  have p5 : W.cell? ⟨w.heap.size + 1 + 1 + 1 + 1 + 1 + 1 + 1, 5, none⟩ = some (.float .f64 4601788794573910437) := by rw [hW]; simp [go_sem]
  have p6 : W.cell? ⟨w.heap.size + 1 + 1 + 1 + 1 + 1 + 1 + 1, 6, none⟩ = some (.float .f64 4583123551765604832) := by rw [hW]; simp [go_sem]
  have p7 : W.cell? ⟨w.heap.size + 1 + 1 + 1 + 1 + 1 + 1 + 1, 7, none⟩ = some (.float .f64 4605225800814425346) := by rw [hW]; simp [go_sem]
  have p8 : W.cell? ⟨w.heap.size + 1 + 1 + 1 + 1 + 1 + 1 + 1, 8, none⟩ = some (.float .f64 13828831160156894525) := by rw [hW]; simp [go_sem]
  have b0 : W.cell? ⟨w.heap.size, 0, none⟩ = some (.float .f64 x) := by rw [hW]; simp [go_sem]
  have b1 : W.cell? ⟨w.heap.size + 1, 0, none⟩ = some (.float .f64 y) := by rw [hW]; simp [go_sem]
  have b2 : W.cell? ⟨w.heap.size + 1 + 1, 0, none⟩ = some (.float .f64 z) := by rw [hW]; simp [go_sem]
  have o0 : W.cell? ⟨w.heap.size + 1 + 1 + 1, 0, none⟩ = some (.float .f64 0) := by rw [hW]; simp [go_sem]
  have o1 : W.cell? ⟨w.heap.size + 1 + 1 + 1 + 1, 0, none⟩ = some (.float .f64 0) := by rw [hW]; simp [go_sem]
  have o2 : W.cell? ⟨w.heap.size + 1 + 1 + 1 + 1 + 1, 0, none⟩ = some (.float .f64 0) := by rw [hW]; simp [go_sem]
  have f0 : W.frozen? ⟨w.heap.size + 1 + 1 + 1, 0, none⟩ = false := by rw [hW]; simp [go_sem]
  have f1 : W.frozen? ⟨w.heap.size + 1 + 1 + 1 + 1, 0, none⟩ = false := by rw [hW]; simp [go_sem]
  have f2 : W.frozen? ⟨w.heap.size + 1 + 1 + 1 + 1 + 1, 0, none⟩ = false := by rw [hW]; simp [go_sem]
  have hB : Below w.heap.size w W := by rw [hW]; repeat (first | exact Below.refl _ _ | refine Below.alloc ?_ (by simp <;> omega) _ | refine Below.setCell ?_ (by simp <;> omega) _)
  clear hW
  go_upto_region 4 with (go_at_call 17; (with_reducible refine (mm_c _ _ _ _ _ _ _ _ _ _ _ _ _ _ _ _ H0.out H1.out H2.out).mono ?_); rintro e u ⟨rfl, hb⟩; have p0' := after_call hb p0; have p1' := after_call hb p1; have p2' := after_call hb p2; have p3' := after_call hb p3; have p4' := after_call hb p4; have p5' := after_call hb p5; have p6' := after_call hb p6; have p7' := after_call hb p7; have p8' := after_call hb p8; have o0' := after_call hb o0; have o1' := after_call hb o1; have o2' := after_call hb o2; have f0' := after_frozen hb o0 f0; have f1' := after_frozen hb o1 f1; have f2' := after_frozen hb o2 f2; replace hB := hB.trans (hb.mono hB.size); clear q0 q1 q2 q3 q4 q5 q6 q7 q8 p0 p1 p2 p3 p4 p5 p6 p7 p8 b0 b1 b2 o0 o1 o2 f0 f1 f2 hb)
  refine wp_gen fun V hV => ?_
  have hbV : Below u.heap.size u V := by rw [hV]; repeat (first | exact Below.refl _ _ | refine Below.alloc ?_ (by first | omega | (simp <;> omega)) _)
  have p0 := after_call hbV p0'
  have p1 := after_call hbV p1'
  have p2 := after_call hbV p2'
  have p3 := after_call hbV p3'
  have p4 := after_call hbV p4'
  have p5 := after_call hbV p5'
  have p6 := after_call hbV p6'
  have p7 := after_call hbV p7'
  have p8 := after_call hbV p8'
  have o0 := after_call hbV o0'
  have o1 := after_call hbV o1'
  have o2 := after_call hbV o2'
  have f0 := after_frozen hbV o0' f0'
  have f1 := after_frozen hbV o1' f1'
  have f2 := after_frozen hbV o2' f2'
  have d0 : V.cell? ⟨u.heap.size, 0, none⟩ = some (.float .f64 l0) := by rw [hV]; simp [go_sem]
  have d1 : V.cell? ⟨u.heap.size + 1, 0, none⟩ = some (.float .f64 l1) := by rw [hV]; simp [go_sem]
  have d2 : V.cell? ⟨u.heap.size + 1 + 1, 0, none⟩ = some (.float .f64 l2) := by rw [hV]; simp [go_sem]
  replace hB : Below w.heap.size w V := hB.trans (hbV.mono hB.size)
  clear hV hbV p0' p1' p2' p3' p4' p5' p6' p7' p8' o0' o1' o2' f0' f1' f2'
  have gp0 := fun d os => cell_regrown p0 d os
  have gp1 := fun d os => cell_regrown p1 d os
  have gp2 := fun d os => cell_regrown p2 d os
  have gp3 := fun d os => cell_regrown p3 d os
  have gp4 := fun d os => cell_regrown p4 d os
  have gp5 := fun d os => cell_regrown p5 d os
  have gp6 := fun d os => cell_regrown p6 d os
  have gp7 := fun d os => cell_regrown p7 d os
  have gp8 := fun d os => cell_regrown p8 d os
  have gd0 := fun d os => cell_regrown d0 d os
  have gd1 := fun d os => cell_regrown d1 d os
  have gd2 := fun d os => cell_regrown d2 d os
  refine QTail.wp_region_below_tail 11 (by kernel_rfl) (by kernel_rfl) (by kernel_rfl) ?_
  simp only [List.take_succ_cons, List.take_zero, List.drop_succ_cons, List.drop_zero]
  repeat (quiet_step (first | exact Calls.regrown_of (cbrt_c _ _ _ K0.out) | exact Calls.regrown_of (cbrt_c _ _ _ K1.out) | exact Calls.regrown_of (cbrt_c _ _ _ K2.out) | exact Calls.regrown_of (mm_c _ _ _ _ _ _ _ _ _ _ _ _ _ _ _ _ G0.out G1.out G2.out)))
  refine wpQuiet_nil ?_
  intro W2 hw'
  have hB2 : Below V.heap.size V W2 := by
    obtain ⟨⟨dq, osq⟩, hw''⟩ := hw'
    rw [hw'']; exact below_regrown V dq osq
  clear hw' gp0 gp1 gp2 gp3 gp4 gp5 gp6 gp7 gp8 gd0 gd1 gd2
  have y0 := after_call hB2 o0
  have y1 := after_call hB2 o1
  have y2 := after_call hB2 o2
  have z0 := after_frozen hB2 o0 f0
  have z1 := after_frozen hB2 o1 f1
  have z2 := after_frozen hB2 o2 f2
  have hT : Below w.heap.size w W2 := hB.trans (hB2.mono hB.size)
  clear p0 p1 p2 p3 p4 p5 p6 p7 p8 o0 o1 o2 f0 f1 f2 d0 d1 d2 hB hB2
  go_wp2
  refine bodyPost_ret (v := .tuple #[fl r0, fl r1, fl r2]) (by simp [results, Try.results13, go_sem, y0, y1, y2]) rfl ⟨rfl, ?_⟩
  repeat (first | exact hT | refine Below.setCell ?_ (by simp <;> omega) _)
def OkP (x y z r0 r1 r2 : Nat) : Prop := ∃ l0 l1 l2 c0 c1 c2, Row 4605552317885431608 4600191143441610756 13817183224500110982 x y z l0 ∧ Row 4584914268437469546 4606545491340083669 4585369816687053158 x y z l1 ∧ Row 4587103887212223230 4598431736022207442 4603881711049788294 x y z l2 ∧ CubP l0 c0 ∧ CubP l1 c1 ∧ CubP l2 c2 ∧ Row 4596750433936516346 4605323493066877613 13794716809331944248 c0 c1 c2 r0 ∧ Row 4611586932458118674 13836023159129529662 4601788794573910437 c0 c1 c2 r1 ∧ Row 4583123551765604832 4605225800814425346 13828831160156894525 c0 c1 c2 r2
theorem oklab13_c (x y z r0 r1 r2 : Nat) (w : World) (h : OkP x y z r0 r1 r2) : Calls Try.prog 13 #[fl x, fl y, fl z] w fun e w' => e = .returned (.tuple #[fl r0, fl r1, fl r2]) ∧ Below w.heap.size w w' := by
  obtain ⟨l0, l1, l2, c0, c1, c2, h0, h1, h2, k0, k1, k2, g0, g1, g2⟩ := h
  exact oklab_c _ _ _ _ _ _ _ _ _ _ _ _ w h0 h1 h2 k0 k1 k2 g0 g1 g2
set_option maxRecDepth 100000 in
set_option maxHeartbeats 4000000 in
theorem ok6_c (x y z r0 r1 r2 : Nat) (w : World) (h : OkP x y z r0 r1 r2) : Calls Try.prog 6 #[.float .f64 x, .float .f64 y, .float .f64 z] w fun e w' => e = .returned (.tuple #[.float .f64 r0, .float .f64 r1, .float .f64 r2]) ∧ Below w.heap.size w w' := by
  have st := st_fl
  have C := Lib.hid (fun w => oklab13_c x y z r0 r1 r2 w h)
  clear h
  go_enter Try.func6, Try.ntmps6
  go_wp2_with (first | (go_at_call 14; refine (new_c _ _).mono ?_; rintro e w' ⟨rfl, rfl⟩) | (go_at_call 13; (with_reducible refine (C.out _).mono ?_); rintro e w' ⟨rfl, hb⟩; replace hb := (show Below w.heap.size w _ by repeat (first | exact Below.refl _ _ | refine Below.alloc ?_ (by first | omega | (simp <;> omega)) _)).trans (hb.mono (by first | omega | (simp <;> omega)))))
  refine wp_gen fun W hW => ?_
  have q0 : W.cell? ⟨w'.heap.size, 0, none⟩ = some (.float .f64 r0) := by rw [hW]; simp [go_sem]
  have q1 : W.cell? ⟨w'.heap.size + 1, 0, none⟩ = some (.float .f64 r1) := by rw [hW]; simp [go_sem]
  have q2 : W.cell? ⟨w'.heap.size + 1 + 1, 0, none⟩ = some (.float .f64 r2) := by rw [hW]; simp [go_sem]
  have hB : Below w.heap.size w W := by rw [hW]; have := hb.size; repeat (first | exact hb | refine Below.alloc ?_ (by first | omega | (simp <;> omega)) _)
  clear hW
  have g0 := fun d os => cell_regrown q0 d os
  have g1 := fun d os => cell_regrown q1 d os
  have g2 := fun d os => cell_regrown q2 d os
  refine wp_region_quiet_below (by kernel_rfl) (by kernel_rfl) ?_
  repeat (quiet_step (exact Calls.regrown_of (valB_c _ _)))
  refine wpQuiet_nil ?_
  intro W2 hw'
  have hB2 : Below W.heap.size W W2 := by
    obtain ⟨⟨dq, osq⟩, hw''⟩ := hw'
    rw [hw'']; exact below_regrown W dq osq
  clear hw' g0 g1 g2 q0 q1 q2
  go_wp2
  go_ret3
  exact ⟨rfl, hB.trans (hB2.mono hB.size)⟩
end Go.Proofs.Ytpjbhbbhkhfiaaa

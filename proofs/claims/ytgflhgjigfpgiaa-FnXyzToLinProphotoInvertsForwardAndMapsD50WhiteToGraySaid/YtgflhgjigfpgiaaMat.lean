/- Contracts of the matrix functions and of their thin exports: each output is the row of the matrix times the vector, as the code reckons it. -/
import Derived.Test.YtgflhgjigfpgiaaMM
import Derived.OwnWalk
namespace Go.Proofs.Ytgflhgjigfpgiaa
open Go.RowKit Go.Sort
open Flt (Row)
theorem after_call {W w' : World} (hb : Below W.heap.size W w') {a : Addr} {v : Value} (hc : W.cell? a = some v) (hf : W.frozen? a = false) : w'.cell? a = some v ∧ w'.frozen? a = false :=
  ⟨by rw [hb.cell (block_lt_of_cell hc)]; exact hc, by rw [hb.frozen (block_lt_of_cell hc)]; exact hf⟩
theorem valB_c (f : Nat) (w : World) :
    Calls Try.prog 35 #[fl f] w fun e w' => e = .returned (.float .f64 f) ∧ Below w.heap.size w w' :=
  (val_c f w).mono fun e w' ⟨he, hw⟩ => ⟨he, by rw [← hw]; exact (Below.refl _ _).alloc (Nat.le_refl _) _⟩
set_option maxRecDepth 100000 in
set_option maxHeartbeats 2000000 in
theorem unwrap_c (r0 r1 r2 : Nat) (w : World) :
    Calls Try.prog 39 #[fl r0, fl r1, fl r2] w fun e w' => e = .returned (.tuple #[.float .f64 r0, .float .f64 r1, .float .f64 r2]) ∧ Below w.heap.size w w' := by
  go_enter Try.func39, Try.ntmps39
  go_wp2
  refine wp_gen fun W hW => ?_
  have q0 : W.cell? ⟨w.heap.size, 0, none⟩ = some (.float .f64 r0) := by rw [hW]; simp [go_sem]
  have q1 : W.cell? ⟨w.heap.size + 1, 0, none⟩ = some (.float .f64 r1) := by rw [hW]; simp [go_sem]
  have q2 : W.cell? ⟨w.heap.size + 1 + 1, 0, none⟩ = some (.float .f64 r2) := by rw [hW]; simp [go_sem]
  have hB : Below w.heap.size w W := by rw [hW]; repeat (first | exact Below.refl _ _ | refine Below.alloc ?_ (by first | omega | (simp <;> omega)) _)
  clear hW
  have g0 := fun d os => cell_regrown q0 d os
  have g1 := fun d os => cell_regrown q1 d os
  have g2 := fun d os => cell_regrown q2 d os
  refine wp_region_quiet_below (by kernel_rfl) (by kernel_rfl) ?_
  repeat (quiet_step (exact Calls.regrown_of (valB_c _ _)))
  refine wpQuiet_nil ?_
  intro W2 hw'
  have hB2 : Below W.heap.size W W2 := by
    obtain ⟨⟨dq, osq⟩, hw''⟩ := hw'
    rw [hw'']; exact below_regrown W dq osq
  clear hw' g0 g1 g2 q0 q1 q2
  go_wp2
  go_ret3
  exact ⟨rfl, hB.trans (hB2.mono hB.size)⟩
set_option maxRecDepth 100000 in
set_option maxHeartbeats 2000000 in
theorem d65_to_d50_c (x y z r0 r1 r2 : Nat) (w : World) (h0 : Row 4607398275395863001 4582271206553430542 13810766325786792494 x y z r0) (h1 : Row 4584196855874768158 4607096259775803785 13803950445789587696 x y z r1) (h2 : Row 13799853908800311418 4579832348793622812 4604947501012614851 x y z r2) :
    Calls Try.prog 33 #[fl x, fl y, fl z] w fun e w' => e = .returned (.tuple #[fl r0, fl r1, fl r2]) ∧ Below w.heap.size w w' := by
  have st := st_fl
  have H0 := Lib.hid h0; have H1 := Lib.hid h1; have H2 := Lib.hid h2
  clear h0 h1 h2
  go_enter Try.func33, Try.ntmps33
  go_wp2_with (go_at_call 46; (with_reducible refine (mm_c _ _ _ _ _ _ _ _ _ _ _ _ _ _ _ _ H0.out H1.out H2.out).mono ?_); rintro e w' ⟨rfl, hb⟩; obtain ⟨c0, f0⟩ := after_call (a := ⟨w.heap.size + 1 + 1 + 1, 0, none⟩) (v := .float .f64 0) hb (by simp [go_sem]) (by simp [go_sem]); obtain ⟨c1, f1⟩ := after_call (a := ⟨w.heap.size + 1 + 1 + 1 + 1, 0, none⟩) (v := .float .f64 0) hb (by simp [go_sem]) (by simp [go_sem]); obtain ⟨c2, f2⟩ := after_call (a := ⟨w.heap.size + 1 + 1 + 1 + 1 + 1, 0, none⟩) (v := .float .f64 0) hb (by simp [go_sem]) (by simp [go_sem]); replace hb := (show Below w.heap.size w _ by repeat (first | exact Below.refl _ _ | refine Below.alloc ?_ (by first | omega | (simp <;> omega)) _)).trans (hb.mono (by first | omega | (simp <;> omega))))
  refine bodyPost_ret (v := .tuple #[fl r0, fl r1, fl r2]) (by simp [results, Try.results33, go_sem, c0, c1, c2]) rfl ⟨rfl, ?_⟩
  repeat (first | exact hb | refine Below.setCell ?_ (by first | omega | (simp <;> omega)) _)
set_option maxRecDepth 100000 in
set_option maxHeartbeats 2000000 in
theorem ZZd65ToD50_n011_70_c (x y z r0 r1 r2 : Nat) (w : World) (h0 : Row 4607398275395863001 4582271206553430542 13810766325786792494 x y z r0) (h1 : Row 4584196855874768158 4607096259775803785 13803950445789587696 x y z r1) (h2 : Row 13799853908800311418 4579832348793622812 4604947501012614851 x y z r2) :
    Calls Try.prog 9 #[.float .f64 x, .float .f64 y, .float .f64 z] w fun e w' => e = .returned (.tuple #[.float .f64 r0, .float .f64 r1, .float .f64 r2]) ∧ Below w.heap.size w w' := by
  have st := st_fl
  have H0 := Lib.hid h0; have H1 := Lib.hid h1; have H2 := Lib.hid h2
  clear h0 h1 h2
  go_enter Try.func9, Try.ntmps9
  go_wp2_with (first | (go_at_call 34; refine (new_c _ _).mono ?_; rintro e w' ⟨rfl, rfl⟩) | (go_at_call 33; (with_reducible refine (d65_to_d50_c _ _ _ _ _ _ _ H0.out H1.out H2.out).mono ?_); rintro e w' ⟨rfl, hb⟩; replace hb := (show Below w.heap.size w _ by repeat (first | exact Below.refl _ _ | refine Below.alloc ?_ (by first | omega | (simp <;> omega)) _)).trans (hb.mono (by first | omega | (simp <;> omega)))))
  refine wp_gen fun W hW => ?_
  have q0 : W.cell? ⟨w'.heap.size, 0, none⟩ = some (.float .f64 r0) := by rw [hW]; simp [go_sem]
  have q1 : W.cell? ⟨w'.heap.size + 1, 0, none⟩ = some (.float .f64 r1) := by rw [hW]; simp [go_sem]
  have q2 : W.cell? ⟨w'.heap.size + 1 + 1, 0, none⟩ = some (.float .f64 r2) := by rw [hW]; simp [go_sem]
  have hB : Below w.heap.size w W := by rw [hW]; have := hb.size; repeat (first | exact hb | refine Below.alloc ?_ (by first | omega | (simp <;> omega)) _)
  clear hW
  have g0 := fun d os => cell_regrown q0 d os
  have g1 := fun d os => cell_regrown q1 d os
  have g2 := fun d os => cell_regrown q2 d os
  refine wp_region_quiet_below (by kernel_rfl) (by kernel_rfl) ?_
  repeat (quiet_step (exact Calls.regrown_of (valB_c _ _)))
  refine wpQuiet_nil ?_
  intro W2 hw'
  have hB2 : Below W.heap.size W W2 := by
    obtain ⟨⟨dq, osq⟩, hw''⟩ := hw'
    rw [hw'']; exact below_regrown W dq osq
  clear hw' g0 g1 g2 q0 q1 q2
  go_wp2
  go_ret3
  exact ⟨rfl, hB.trans (hB2.mono hB.size)⟩
set_option maxRecDepth 100000 in
set_option maxHeartbeats 2000000 in
theorem lin_srgb_to_xyz_c (x y z r0 r1 r2 : Nat) (w : World) (h0 : Row 4601100592117526705 4600113286708316951 4595670525981687698 x y z r0) (h1 : Row 4596829147871394358 4604616886335687447 4589866425216086747 x y z r1) (h2 : Row 4581228950558139524 4593253309717046303 4606736852038626910 x y z r2) :
    Calls Try.prog 36 #[fl x, fl y, fl z] w fun e w' => e = .returned (.tuple #[fl r0, fl r1, fl r2]) ∧ Below w.heap.size w w' := by
  have st := st_fl
  have H0 := Lib.hid h0; have H1 := Lib.hid h1; have H2 := Lib.hid h2
  clear h0 h1 h2
  go_enter Try.func36, Try.ntmps36
  go_wp2_with (go_at_call 46; (with_reducible refine (mm_c _ _ _ _ _ _ _ _ _ _ _ _ _ _ _ _ H0.out H1.out H2.out).mono ?_); rintro e w' ⟨rfl, hb⟩; obtain ⟨c0, f0⟩ := after_call (a := ⟨w.heap.size + 1 + 1 + 1, 0, none⟩) (v := .float .f64 0) hb (by simp [go_sem]) (by simp [go_sem]); obtain ⟨c1, f1⟩ := after_call (a := ⟨w.heap.size + 1 + 1 + 1 + 1, 0, none⟩) (v := .float .f64 0) hb (by simp [go_sem]) (by simp [go_sem]); obtain ⟨c2, f2⟩ := after_call (a := ⟨w.heap.size + 1 + 1 + 1 + 1 + 1, 0, none⟩) (v := .float .f64 0) hb (by simp [go_sem]) (by simp [go_sem]); replace hb := (show Below w.heap.size w _ by repeat (first | exact Below.refl _ _ | refine Below.alloc ?_ (by first | omega | (simp <;> omega)) _)).trans (hb.mono (by first | omega | (simp <;> omega))))
  refine bodyPost_ret (v := .tuple #[fl r0, fl r1, fl r2]) (by simp [results, Try.results36, go_sem, c0, c1, c2]) rfl ⟨rfl, ?_⟩
  repeat (first | exact hb | refine Below.setCell ?_ (by first | omega | (simp <;> omega)) _)
set_option maxRecDepth 100000 in
set_option maxHeartbeats 2000000 in
theorem ZZlinSrgbToXyz_n011_225_c (x y z r0 r1 r2 : Nat) (w : World) (h0 : Row 4601100592117526705 4600113286708316951 4595670525981687698 x y z r0) (h1 : Row 4596829147871394358 4604616886335687447 4589866425216086747 x y z r1) (h2 : Row 4581228950558139524 4593253309717046303 4606736852038626910 x y z r2) :
    Calls Try.prog 13 #[.float .f64 x, .float .f64 y, .float .f64 z] w fun e w' => e = .returned (.tuple #[.float .f64 r0, .float .f64 r1, .float .f64 r2]) ∧ Below w.heap.size w w' := by
  have st := st_fl
  have H0 := Lib.hid h0; have H1 := Lib.hid h1; have H2 := Lib.hid h2
  clear h0 h1 h2
  go_enter Try.func13, Try.ntmps13
  go_wp2_with (first | (go_at_call 34; refine (new_c _ _).mono ?_; rintro e w' ⟨rfl, rfl⟩) | (go_at_call 36; (with_reducible refine (lin_srgb_to_xyz_c _ _ _ _ _ _ _ H0.out H1.out H2.out).mono ?_); rintro e w' ⟨rfl, hb⟩; replace hb := (show Below w.heap.size w _ by repeat (first | exact Below.refl _ _ | refine Below.alloc ?_ (by first | omega | (simp <;> omega)) _)).trans (hb.mono (by first | omega | (simp <;> omega)))))
  refine wp_gen fun W hW => ?_
  have q0 : W.cell? ⟨w'.heap.size, 0, none⟩ = some (.float .f64 r0) := by rw [hW]; simp [go_sem]
  have q1 : W.cell? ⟨w'.heap.size + 1, 0, none⟩ = some (.float .f64 r1) := by rw [hW]; simp [go_sem]
  have q2 : W.cell? ⟨w'.heap.size + 1 + 1, 0, none⟩ = some (.float .f64 r2) := by rw [hW]; simp [go_sem]
  have hB : Below w.heap.size w W := by rw [hW]; have := hb.size; repeat (first | exact hb | refine Below.alloc ?_ (by first | omega | (simp <;> omega)) _)
  clear hW
  have g0 := fun d os => cell_regrown q0 d os
  have g1 := fun d os => cell_regrown q1 d os
  have g2 := fun d os => cell_regrown q2 d os
  refine wp_region_quiet_below (by kernel_rfl) (by kernel_rfl) ?_
  repeat (quiet_step (exact Calls.regrown_of (valB_c _ _)))
  refine wpQuiet_nil ?_
  intro W2 hw'
  have hB2 : Below W.heap.size W W2 := by
    obtain ⟨⟨dq, osq⟩, hw''⟩ := hw'
    rw [hw'']; exact below_regrown W dq osq
  clear hw' g0 g1 g2 q0 q1 q2
  go_wp2
  go_ret3
  exact ⟨rfl, hB.trans (hB2.mono hB.size)⟩
set_option maxRecDepth 100000 in
set_option maxHeartbeats 2000000 in
theorem xyz_to_lin_srgb_c (x y z r0 r1 r2 : Nat) (w : World) (h0 : Row 4614480434311357498 13832974614333053062 13826025829709715685 x y z r0) (h1 : Row 13830277426958423814 4611127425713396243 4586149535949532533 x y z r1) (h2 : Row 4588177960434001517 13819889101593667727 4607438995690332369 x y z r2) :
    Calls Try.prog 37 #[fl x, fl y, fl z] w fun e w' => e = .returned (.tuple #[fl r0, fl r1, fl r2]) ∧ Below w.heap.size w w' := by
  have st := st_fl
  have H0 := Lib.hid h0; have H1 := Lib.hid h1; have H2 := Lib.hid h2
  clear h0 h1 h2
  go_enter Try.func37, Try.ntmps37
  go_wp2_with (go_at_call 46; (with_reducible refine (mm_c _ _ _ _ _ _ _ _ _ _ _ _ _ _ _ _ H0.out H1.out H2.out).mono ?_); rintro e w' ⟨rfl, hb⟩; obtain ⟨c0, f0⟩ := after_call (a := ⟨w.heap.size + 1 + 1 + 1, 0, none⟩) (v := .float .f64 0) hb (by simp [go_sem]) (by simp [go_sem]); obtain ⟨c1, f1⟩ := after_call (a := ⟨w.heap.size + 1 + 1 + 1 + 1, 0, none⟩) (v := .float .f64 0) hb (by simp [go_sem]) (by simp [go_sem]); obtain ⟨c2, f2⟩ := after_call (a := ⟨w.heap.size + 1 + 1 + 1 + 1 + 1, 0, none⟩) (v := .float .f64 0) hb (by simp [go_sem]) (by simp [go_sem]); replace hb := (show Below w.heap.size w _ by repeat (first | exact Below.refl _ _ | refine Below.alloc ?_ (by first | omega | (simp <;> omega)) _)).trans (hb.mono (by first | omega | (simp <;> omega))))
  refine bodyPost_ret (v := .tuple #[fl r0, fl r1, fl r2]) (by simp [results, Try.results37, go_sem, c0, c1, c2]) rfl ⟨rfl, ?_⟩
  repeat (first | exact hb | refine Below.setCell ?_ (by first | omega | (simp <;> omega)) _)
set_option maxRecDepth 100000 in
set_option maxHeartbeats 2000000 in
theorem ZZxyzToLinSrgb_n011_225_c (x y z r0 r1 r2 : Nat) (w : World) (h0 : Row 4614480434311357498 13832974614333053062 13826025829709715685 x y z r0) (h1 : Row 13830277426958423814 4611127425713396243 4586149535949532533 x y z r1) (h2 : Row 4588177960434001517 13819889101593667727 4607438995690332369 x y z r2) :
    Calls Try.prog 14 #[.float .f64 x, .float .f64 y, .float .f64 z] w fun e w' => e = .returned (.tuple #[.float .f64 r0, .float .f64 r1, .float .f64 r2]) ∧ Below w.heap.size w w' := by
  have st := st_fl
  have H0 := Lib.hid h0; have H1 := Lib.hid h1; have H2 := Lib.hid h2
  clear h0 h1 h2
  go_enter Try.func14, Try.ntmps14
  go_wp2_with (first | (go_at_call 34; refine (new_c _ _).mono ?_; rintro e w' ⟨rfl, rfl⟩) | (go_at_call 37; (with_reducible refine (xyz_to_lin_srgb_c _ _ _ _ _ _ _ H0.out H1.out H2.out).mono ?_); rintro e w' ⟨rfl, hb⟩; replace hb := (show Below w.heap.size w _ by repeat (first | exact Below.refl _ _ | refine Below.alloc ?_ (by first | omega | (simp <;> omega)) _)).trans (hb.mono (by first | omega | (simp <;> omega)))))
  refine wp_gen fun W hW => ?_
  have q0 : W.cell? ⟨w'.heap.size, 0, none⟩ = some (.float .f64 r0) := by rw [hW]; simp [go_sem]
  have q1 : W.cell? ⟨w'.heap.size + 1, 0, none⟩ = some (.float .f64 r1) := by rw [hW]; simp [go_sem]
  have q2 : W.cell? ⟨w'.heap.size + 1 + 1, 0, none⟩ = some (.float .f64 r2) := by rw [hW]; simp [go_sem]
  have hB : Below w.heap.size w W := by rw [hW]; have := hb.size; repeat (first | exact hb | refine Below.alloc ?_ (by first | omega | (simp <;> omega)) _)
  clear hW
  have g0 := fun d os => cell_regrown q0 d os
  have g1 := fun d os => cell_regrown q1 d os
  have g2 := fun d os => cell_regrown q2 d os
  refine wp_region_quiet_below (by kernel_rfl) (by kernel_rfl) ?_
  repeat (quiet_step (exact Calls.regrown_of (valB_c _ _)))
  refine wpQuiet_nil ?_
  intro W2 hw'
  have hB2 : Below W.heap.size W W2 := by
    obtain ⟨⟨dq, osq⟩, hw''⟩ := hw'
    rw [hw'']; exact below_regrown W dq osq
  clear hw' g0 g1 g2 q0 q1 q2
  go_wp2
  go_ret3
  exact ⟨rfl, hB.trans (hB2.mono hB.size)⟩
set_option maxRecDepth 100000 in
set_option maxHeartbeats 2000000 in
theorem xyz_to_lin_p3_c (x y z r0 r1 r2 : Nat) (w : World) (h0 : Row 4612797274681751849 13829936414229251323 13824298249327843042 x y z r0) (h1 : Row 13829018628828503116 4610617152377875984 4582466573495113356 x y z r1) (h2 : Row 4585326749603112614 13813525256620716304 4606794069116791646 x y z r2) :
    Calls Try.prog 40 #[fl x, fl y, fl z] w fun e w' => e = .returned (.tuple #[fl r0, fl r1, fl r2]) ∧ Below w.heap.size w w' := by
  have st := st_fl
  have H0 := Lib.hid h0; have H1 := Lib.hid h1; have H2 := Lib.hid h2
  clear h0 h1 h2
  go_enter Try.func40, Try.ntmps40
  go_wp2_with (go_at_call 46; (with_reducible refine (mm_c _ _ _ _ _ _ _ _ _ _ _ _ _ _ _ _ H0.out H1.out H2.out).mono ?_); rintro e w' ⟨rfl, hb⟩; obtain ⟨c0, f0⟩ := after_call (a := ⟨w.heap.size + 1 + 1 + 1, 0, none⟩) (v := .float .f64 0) hb (by simp [go_sem]) (by simp [go_sem]); obtain ⟨c1, f1⟩ := after_call (a := ⟨w.heap.size + 1 + 1 + 1 + 1, 0, none⟩) (v := .float .f64 0) hb (by simp [go_sem]) (by simp [go_sem]); obtain ⟨c2, f2⟩ := after_call (a := ⟨w.heap.size + 1 + 1 + 1 + 1 + 1, 0, none⟩) (v := .float .f64 0) hb (by simp [go_sem]) (by simp [go_sem]); replace hb := (show Below w.heap.size w _ by repeat (first | exact Below.refl _ _ | refine Below.alloc ?_ (by first | omega | (simp <;> omega)) _)).trans (hb.mono (by first | omega | (simp <;> omega))))
  refine bodyPost_ret (v := .tuple #[fl r0, fl r1, fl r2]) (by simp [results, Try.results40, go_sem, c0, c1, c2]) rfl ⟨rfl, ?_⟩
  repeat (first | exact hb | refine Below.setCell ?_ (by first | omega | (simp <;> omega)) _)
set_option maxRecDepth 100000 in
set_option maxHeartbeats 2000000 in
theorem ZZxyzToLinP3_n011_83_c (x y z r0 r1 r2 : Nat) (w : World) (h0 : Row 4612797274681751849 13829936414229251323 13824298249327843042 x y z r0) (h1 : Row 13829018628828503116 4610617152377875984 4582466573495113356 x y z r1) (h2 : Row 4585326749603112614 13813525256620716304 4606794069116791646 x y z r2) :
    Calls Try.prog 18 #[.float .f64 x, .float .f64 y, .float .f64 z] w fun e w' => e = .returned (.tuple #[.float .f64 r0, .float .f64 r1, .float .f64 r2]) ∧ Below w.heap.size w w' := by
  have st := st_fl
  have H0 := Lib.hid h0; have H1 := Lib.hid h1; have H2 := Lib.hid h2
  clear h0 h1 h2
  go_enter Try.func18, Try.ntmps18
  go_wp2_with (first | (go_at_call 34; refine (new_c _ _).mono ?_; rintro e w' ⟨rfl, rfl⟩) | (go_at_call 40; (with_reducible refine (xyz_to_lin_p3_c _ _ _ _ _ _ _ H0.out H1.out H2.out).mono ?_); rintro e w' ⟨rfl, hb⟩; replace hb := (show Below w.heap.size w _ by repeat (first | exact Below.refl _ _ | refine Below.alloc ?_ (by first | omega | (simp <;> omega)) _)).trans (hb.mono (by first | omega | (simp <;> omega)))) | (go_at_call 39; refine (unwrap_c _ _ _ _).mono ?_; rintro e w2 ⟨rfl, hb2⟩; replace hb := hb.trans (hb2.mono hb.size); clear hb2))
  go_ret3
  exact ⟨rfl, hb⟩
set_option maxRecDepth 100000 in
set_option maxHeartbeats 2000000 in
theorem lin_p3_to_xyz_c (x y z r0 r1 r2 : Nat) (w : World) (h0 : Row 4602436902889991582 4598457463613748745 4596309550625894354 x y z r0) (h1 : Row 4597417698381910165 4604405846243637830 4590377644931452072 x y z r1) (h2 : Row 0 4586662344547128081 4607380326643424874 x y z r2) :
    Calls Try.prog 41 #[fl x, fl y, fl z] w fun e w' => e = .returned (.tuple #[fl r0, fl r1, fl r2]) ∧ Below w.heap.size w w' := by
  have st := st_fl
  have H0 := Lib.hid h0; have H1 := Lib.hid h1; have H2 := Lib.hid h2
  clear h0 h1 h2
  go_enter Try.func41, Try.ntmps41
  go_wp2_with (go_at_call 46; (with_reducible refine (mm_c _ _ _ _ _ _ _ _ _ _ _ _ _ _ _ _ H0.out H1.out H2.out).mono ?_); rintro e w' ⟨rfl, hb⟩; obtain ⟨c0, f0⟩ := after_call (a := ⟨w.heap.size + 1 + 1 + 1, 0, none⟩) (v := .float .f64 0) hb (by simp [go_sem]) (by simp [go_sem]); obtain ⟨c1, f1⟩ := after_call (a := ⟨w.heap.size + 1 + 1 + 1 + 1, 0, none⟩) (v := .float .f64 0) hb (by simp [go_sem]) (by simp [go_sem]); obtain ⟨c2, f2⟩ := after_call (a := ⟨w.heap.size + 1 + 1 + 1 + 1 + 1, 0, none⟩) (v := .float .f64 0) hb (by simp [go_sem]) (by simp [go_sem]); replace hb := (show Below w.heap.size w _ by repeat (first | exact Below.refl _ _ | refine Below.alloc ?_ (by first | omega | (simp <;> omega)) _)).trans (hb.mono (by first | omega | (simp <;> omega))))
  refine bodyPost_ret (v := .tuple #[fl r0, fl r1, fl r2]) (by simp [results, Try.results41, go_sem, c0, c1, c2]) rfl ⟨rfl, ?_⟩
  repeat (first | exact hb | refine Below.setCell ?_ (by first | omega | (simp <;> omega)) _)
set_option maxRecDepth 100000 in
set_option maxHeartbeats 2000000 in
theorem ZZlinP3ToXyz_n011_83_c (x y z r0 r1 r2 : Nat) (w : World) (h0 : Row 4602436902889991582 4598457463613748745 4596309550625894354 x y z r0) (h1 : Row 4597417698381910165 4604405846243637830 4590377644931452072 x y z r1) (h2 : Row 0 4586662344547128081 4607380326643424874 x y z r2) :
    Calls Try.prog 19 #[.float .f64 x, .float .f64 y, .float .f64 z] w fun e w' => e = .returned (.tuple #[.float .f64 r0, .float .f64 r1, .float .f64 r2]) ∧ Below w.heap.size w w' := by
  have st := st_fl
  have H0 := Lib.hid h0; have H1 := Lib.hid h1; have H2 := Lib.hid h2
  clear h0 h1 h2
  go_enter Try.func19, Try.ntmps19
  go_wp2_with (first | (go_at_call 34; refine (new_c _ _).mono ?_; rintro e w' ⟨rfl, rfl⟩) | (go_at_call 41; (with_reducible refine (lin_p3_to_xyz_c _ _ _ _ _ _ _ H0.out H1.out H2.out).mono ?_); rintro e w' ⟨rfl, hb⟩; replace hb := (show Below w.heap.size w _ by repeat (first | exact Below.refl _ _ | refine Below.alloc ?_ (by first | omega | (simp <;> omega)) _)).trans (hb.mono (by first | omega | (simp <;> omega)))) | (go_at_call 39; refine (unwrap_c _ _ _ _).mono ?_; rintro e w2 ⟨rfl, hb2⟩; replace hb := hb.trans (hb2.mono hb.size); clear hb2))
  go_ret3
  exact ⟨rfl, hb⟩
set_option maxRecDepth 100000 in
set_option maxHeartbeats 2000000 in
theorem xyz_to_lin_a98rgb_c (x y z r0 r1 r2 : Nat) (w : World) (h0 : Row 4611779666061440502 13826636386797700231 13823253784704314578 x y z r0) (h1 : Row 13830277426958423814 4611127425713396243 4586149535949532533 x y z r1) (h2 : Row 4578903721908372390 13816565366726681444 4607250760899102990 x y z r2) :
    Calls Try.prog 42 #[fl x, fl y, fl z] w fun e w' => e = .returned (.tuple #[fl r0, fl r1, fl r2]) ∧ Below w.heap.size w w' := by
  have st := st_fl
  have H0 := Lib.hid h0; have H1 := Lib.hid h1; have H2 := Lib.hid h2
  clear h0 h1 h2
  go_enter Try.func42, Try.ntmps42
  go_wp2_with (go_at_call 46; (with_reducible refine (mm_c _ _ _ _ _ _ _ _ _ _ _ _ _ _ _ _ H0.out H1.out H2.out).mono ?_); rintro e w' ⟨rfl, hb⟩; obtain ⟨c0, f0⟩ := after_call (a := ⟨w.heap.size + 1 + 1 + 1, 0, none⟩) (v := .float .f64 0) hb (by simp [go_sem]) (by simp [go_sem]); obtain ⟨c1, f1⟩ := after_call (a := ⟨w.heap.size + 1 + 1 + 1 + 1, 0, none⟩) (v := .float .f64 0) hb (by simp [go_sem]) (by simp [go_sem]); obtain ⟨c2, f2⟩ := after_call (a := ⟨w.heap.size + 1 + 1 + 1 + 1 + 1, 0, none⟩) (v := .float .f64 0) hb (by simp [go_sem]) (by simp [go_sem]); replace hb := (show Below w.heap.size w _ by repeat (first | exact Below.refl _ _ | refine Below.alloc ?_ (by first | omega | (simp <;> omega)) _)).trans (hb.mono (by first | omega | (simp <;> omega))))
  refine bodyPost_ret (v := .tuple #[fl r0, fl r1, fl r2]) (by simp [results, Try.results42, go_sem, c0, c1, c2]) rfl ⟨rfl, ?_⟩
  repeat (first | exact hb | refine Below.setCell ?_ (by first | omega | (simp <;> omega)) _)
set_option maxRecDepth 100000 in
set_option maxHeartbeats 2000000 in
theorem ZZXyzToLinA98rgb_n011_226_c (x y z r0 r1 r2 : Nat) (w : World) (h0 : Row 4611779666061440502 13826636386797700231 13823253784704314578 x y z r0) (h1 : Row 13830277426958423814 4611127425713396243 4586149535949532533 x y z r1) (h2 : Row 4578903721908372390 13816565366726681444 4607250760899102990 x y z r2) :
    Calls Try.prog 24 #[.float .f64 x, .float .f64 y, .float .f64 z] w fun e w' => e = .returned (.tuple #[.float .f64 r0, .float .f64 r1, .float .f64 r2]) ∧ Below w.heap.size w w' := by
  have st := st_fl
  have H0 := Lib.hid h0; have H1 := Lib.hid h1; have H2 := Lib.hid h2
  clear h0 h1 h2
  go_enter Try.func24, Try.ntmps24
  go_wp2_with (first | (go_at_call 34; refine (new_c _ _).mono ?_; rintro e w' ⟨rfl, rfl⟩) | (go_at_call 42; (with_reducible refine (xyz_to_lin_a98rgb_c _ _ _ _ _ _ _ H0.out H1.out H2.out).mono ?_); rintro e w' ⟨rfl, hb⟩; replace hb := (show Below w.heap.size w _ by repeat (first | exact Below.refl _ _ | refine Below.alloc ?_ (by first | omega | (simp <;> omega)) _)).trans (hb.mono (by first | omega | (simp <;> omega)))))
  refine wp_gen fun W hW => ?_
  have q0 : W.cell? ⟨w'.heap.size, 0, none⟩ = some (.float .f64 r0) := by rw [hW]; simp [go_sem]
  have q1 : W.cell? ⟨w'.heap.size + 1, 0, none⟩ = some (.float .f64 r1) := by rw [hW]; simp [go_sem]
  have q2 : W.cell? ⟨w'.heap.size + 1 + 1, 0, none⟩ = some (.float .f64 r2) := by rw [hW]; simp [go_sem]
  have hB : Below w.heap.size w W := by rw [hW]; have := hb.size; repeat (first | exact hb | refine Below.alloc ?_ (by first | omega | (simp <;> omega)) _)
  clear hW
  have g0 := fun d os => cell_regrown q0 d os
  have g1 := fun d os => cell_regrown q1 d os
  have g2 := fun d os => cell_regrown q2 d os
  refine wp_region_quiet_below (by kernel_rfl) (by kernel_rfl) ?_
  repeat (quiet_step (exact Calls.regrown_of (valB_c _ _)))
  refine wpQuiet_nil ?_
  intro W2 hw'
  have hB2 : Below W.heap.size W W2 := by
    obtain ⟨⟨dq, osq⟩, hw''⟩ := hw'
    rw [hw'']; exact below_regrown W dq osq
  clear hw' g0 g1 g2 q0 q1 q2
  go_wp2
  go_ret3
  exact ⟨rfl, hB.trans (hB2.mono hB.size)⟩
set_option maxRecDepth 100000 in
set_option maxHeartbeats 2000000 in
theorem lin_a98rgb_to_xyz_c (x y z r0 r1 r2 : Nat) (w : World) (h0 : Row 4603369392518808747 4595853460379267005 4595949671978890425 x y z r0) (h1 : Row 4599028110796861136 4603826008191704300 4590089742013848929 x y z r1) (h2 : Row 4583448480868722432 4589758089302198513 4607104394268277168 x y z r2) :
    Calls Try.prog 43 #[fl x, fl y, fl z] w fun e w' => e = .returned (.tuple #[fl r0, fl r1, fl r2]) ∧ Below w.heap.size w w' := by
  have st := st_fl
  have H0 := Lib.hid h0; have H1 := Lib.hid h1; have H2 := Lib.hid h2
  clear h0 h1 h2
  go_enter Try.func43, Try.ntmps43
  go_wp2_with (go_at_call 46; (with_reducible refine (mm_c _ _ _ _ _ _ _ _ _ _ _ _ _ _ _ _ H0.out H1.out H2.out).mono ?_); rintro e w' ⟨rfl, hb⟩; obtain ⟨c0, f0⟩ := after_call (a := ⟨w.heap.size + 1 + 1 + 1, 0, none⟩) (v := .float .f64 0) hb (by simp [go_sem]) (by simp [go_sem]); obtain ⟨c1, f1⟩ := after_call (a := ⟨w.heap.size + 1 + 1 + 1 + 1, 0, none⟩) (v := .float .f64 0) hb (by simp [go_sem]) (by simp [go_sem]); obtain ⟨c2, f2⟩ := after_call (a := ⟨w.heap.size + 1 + 1 + 1 + 1 + 1, 0, none⟩) (v := .float .f64 0) hb (by simp [go_sem]) (by simp [go_sem]); replace hb := (show Below w.heap.size w _ by repeat (first | exact Below.refl _ _ | refine Below.alloc ?_ (by first | omega | (simp <;> omega)) _)).trans (hb.mono (by first | omega | (simp <;> omega))))
  refine bodyPost_ret (v := .tuple #[fl r0, fl r1, fl r2]) (by simp [results, Try.results43, go_sem, c0, c1, c2]) rfl ⟨rfl, ?_⟩
  repeat (first | exact hb | refine Below.setCell ?_ (by first | omega | (simp <;> omega)) _)
set_option maxRecDepth 100000 in
set_option maxHeartbeats 2000000 in
theorem ZZLinA98rgbToXyz_n011_226_c (x y z r0 r1 r2 : Nat) (w : World) (h0 : Row 4603369392518808747 4595853460379267005 4595949671978890425 x y z r0) (h1 : Row 4599028110796861136 4603826008191704300 4590089742013848929 x y z r1) (h2 : Row 4583448480868722432 4589758089302198513 4607104394268277168 x y z r2) :
    Calls Try.prog 25 #[.float .f64 x, .float .f64 y, .float .f64 z] w fun e w' => e = .returned (.tuple #[.float .f64 r0, .float .f64 r1, .float .f64 r2]) ∧ Below w.heap.size w w' := by
  have st := st_fl
  have H0 := Lib.hid h0; have H1 := Lib.hid h1; have H2 := Lib.hid h2
  clear h0 h1 h2
  go_enter Try.func25, Try.ntmps25
  go_wp2_with (first | (go_at_call 34; refine (new_c _ _).mono ?_; rintro e w' ⟨rfl, rfl⟩) | (go_at_call 43; (with_reducible refine (lin_a98rgb_to_xyz_c _ _ _ _ _ _ _ H0.out H1.out H2.out).mono ?_); rintro e w' ⟨rfl, hb⟩; replace hb := (show Below w.heap.size w _ by repeat (first | exact Below.refl _ _ | refine Below.alloc ?_ (by first | omega | (simp <;> omega)) _)).trans (hb.mono (by first | omega | (simp <;> omega)))))
  refine wp_gen fun W hW => ?_
  have q0 : W.cell? ⟨w'.heap.size, 0, none⟩ = some (.float .f64 r0) := by rw [hW]; simp [go_sem]
  have q1 : W.cell? ⟨w'.heap.size + 1, 0, none⟩ = some (.float .f64 r1) := by rw [hW]; simp [go_sem]
  have q2 : W.cell? ⟨w'.heap.size + 1 + 1, 0, none⟩ = some (.float .f64 r2) := by rw [hW]; simp [go_sem]
  have hB : Below w.heap.size w W := by rw [hW]; have := hb.size; repeat (first | exact hb | refine Below.alloc ?_ (by first | omega | (simp <;> omega)) _)
  clear hW
  have g0 := fun d os => cell_regrown q0 d os
  have g1 := fun d os => cell_regrown q1 d os
  have g2 := fun d os => cell_regrown q2 d os
  refine wp_region_quiet_below (by kernel_rfl) (by kernel_rfl) ?_
  repeat (quiet_step (exact Calls.regrown_of (valB_c _ _)))
  refine wpQuiet_nil ?_
  intro W2 hw'
  have hB2 : Below W.heap.size W W2 := by
    obtain ⟨⟨dq, osq⟩, hw''⟩ := hw'
    rw [hw'']; exact below_regrown W dq osq
  clear hw' g0 g1 g2 q0 q1 q2
  go_wp2
  go_ret3
  exact ⟨rfl, hB.trans (hB2.mono hB.size)⟩
set_option maxRecDepth 100000 in
set_option maxHeartbeats 2000000 in
theorem xyz_to_lin_prophoto_c (x y z r0 r1 r2 : Nat) (w : World) (h0 : Row 4608739758926428405 13821647778546615692 13810898049774936208 x y z r0) (h1 : Row 13826452779721249017 4609471295584413373 4581576329749283875 x y z r1) (h2 : Row 0 0 4608137035759571601 x y z r2) :
    Calls Try.prog 44 #[fl x, fl y, fl z] w fun e w' => e = .returned (.tuple #[fl r0, fl r1, fl r2]) ∧ Below w.heap.size w w' := by
  have st := st_fl
  have H0 := Lib.hid h0; have H1 := Lib.hid h1; have H2 := Lib.hid h2
  clear h0 h1 h2
  go_enter Try.func44, Try.ntmps44
  go_wp2_with (go_at_call 46; (with_reducible refine (mm_c _ _ _ _ _ _ _ _ _ _ _ _ _ _ _ _ H0.out H1.out H2.out).mono ?_); rintro e w' ⟨rfl, hb⟩; obtain ⟨c0, f0⟩ := after_call (a := ⟨w.heap.size + 1 + 1 + 1, 0, none⟩) (v := .float .f64 0) hb (by simp [go_sem]) (by simp [go_sem]); obtain ⟨c1, f1⟩ := after_call (a := ⟨w.heap.size + 1 + 1 + 1 + 1, 0, none⟩) (v := .float .f64 0) hb (by simp [go_sem]) (by simp [go_sem]); obtain ⟨c2, f2⟩ := after_call (a := ⟨w.heap.size + 1 + 1 + 1 + 1 + 1, 0, none⟩) (v := .float .f64 0) hb (by simp [go_sem]) (by simp [go_sem]); replace hb := (show Below w.heap.size w _ by repeat (first | exact Below.refl _ _ | refine Below.alloc ?_ (by first | omega | (simp <;> omega)) _)).trans (hb.mono (by first | omega | (simp <;> omega))))
  refine bodyPost_ret (v := .tuple #[fl r0, fl r1, fl r2]) (by simp [results, Try.results44, go_sem, c0, c1, c2]) rfl ⟨rfl, ?_⟩
  repeat (first | exact hb | refine Below.setCell ?_ (by first | omega | (simp <;> omega)) _)
set_option maxRecDepth 100000 in
set_option maxHeartbeats 2000000 in
theorem ZZxyzToLinProphoto_n011_293_c (x y z r0 r1 r2 : Nat) (w : World) (h0 : Row 4608739758926428405 13821647778546615692 13810898049774936208 x y z r0) (h1 : Row 13826452779721249017 4609471295584413373 4581576329749283875 x y z r1) (h2 : Row 0 0 4608137035759571601 x y z r2) :
    Calls Try.prog 28 #[.float .f64 x, .float .f64 y, .float .f64 z] w fun e w' => e = .returned (.tuple #[.float .f64 r0, .float .f64 r1, .float .f64 r2]) ∧ Below w.heap.size w w' := by
  have st := st_fl
  have H0 := Lib.hid h0; have H1 := Lib.hid h1; have H2 := Lib.hid h2
  clear h0 h1 h2
  go_enter Try.func28, Try.ntmps28
  go_wp2_with (first | (go_at_call 34; refine (new_c _ _).mono ?_; rintro e w' ⟨rfl, rfl⟩) | (go_at_call 44; (with_reducible refine (xyz_to_lin_prophoto_c _ _ _ _ _ _ _ H0.out H1.out H2.out).mono ?_); rintro e w' ⟨rfl, hb⟩; replace hb := (show Below w.heap.size w _ by repeat (first | exact Below.refl _ _ | refine Below.alloc ?_ (by first | omega | (simp <;> omega)) _)).trans (hb.mono (by first | omega | (simp <;> omega)))))
  refine wp_gen fun W hW => ?_
  have q0 : W.cell? ⟨w'.heap.size, 0, none⟩ = some (.float .f64 r0) := by rw [hW]; simp [go_sem]
  have q1 : W.cell? ⟨w'.heap.size + 1, 0, none⟩ = some (.float .f64 r1) := by rw [hW]; simp [go_sem]
  have q2 : W.cell? ⟨w'.heap.size + 1 + 1, 0, none⟩ = some (.float .f64 r2) := by rw [hW]; simp [go_sem]
  have hB : Below w.heap.size w W := by rw [hW]; have := hb.size; repeat (first | exact hb | refine Below.alloc ?_ (by first | omega | (simp <;> omega)) _)
  clear hW
  have g0 := fun d os => cell_regrown q0 d os
  have g1 := fun d os => cell_regrown q1 d os
  have g2 := fun d os => cell_regrown q2 d os
  refine wp_region_quiet_below (by kernel_rfl) (by kernel_rfl) ?_
  repeat (quiet_step (exact Calls.regrown_of (valB_c _ _)))
  refine wpQuiet_nil ?_
  intro W2 hw'
  have hB2 : Below W.heap.size W W2 := by
    obtain ⟨⟨dq, osq⟩, hw''⟩ := hw'
    rw [hw'']; exact below_regrown W dq osq
  clear hw' g0 g1 g2 q0 q1 q2
  go_wp2
  go_ret3
  exact ⟨rfl, hB.trans (hB2.mono hB.size)⟩
set_option maxRecDepth 100000 in
set_option maxHeartbeats 2000000 in
theorem lin_prophoto_to_xyz_c (x y z r0 r1 r2 : Nat) (w : World) (h0 : Row 4605360807233314590 4594038603377978885 4584678738446791632 x y z r0) (h1 : Row 4598861048020904497 4604586933246227991 4545948571150199221 x y z r1) (h2 : Row 0 0 4605607101106091995 x y z r2) :
    Calls Try.prog 45 #[fl x, fl y, fl z] w fun e w' => e = .returned (.tuple #[fl r0, fl r1, fl r2]) ∧ Below w.heap.size w w' := by
  have st := st_fl
  have H0 := Lib.hid h0; have H1 := Lib.hid h1; have H2 := Lib.hid h2
  clear h0 h1 h2
  go_enter Try.func45, Try.ntmps45
  go_wp2_with (go_at_call 46; (with_reducible refine (mm_c _ _ _ _ _ _ _ _ _ _ _ _ _ _ _ _ H0.out H1.out H2.out).mono ?_); rintro e w' ⟨rfl, hb⟩; obtain ⟨c0, f0⟩ := after_call (a := ⟨w.heap.size + 1 + 1 + 1, 0, none⟩) (v := .float .f64 0) hb (by simp [go_sem]) (by simp [go_sem]); obtain ⟨c1, f1⟩ := after_call (a := ⟨w.heap.size + 1 + 1 + 1 + 1, 0, none⟩) (v := .float .f64 0) hb (by simp [go_sem]) (by simp [go_sem]); obtain ⟨c2, f2⟩ := after_call (a := ⟨w.heap.size + 1 + 1 + 1 + 1 + 1, 0, none⟩) (v := .float .f64 0) hb (by simp [go_sem]) (by simp [go_sem]); replace hb := (show Below w.heap.size w _ by repeat (first | exact Below.refl _ _ | refine Below.alloc ?_ (by first | omega | (simp <;> omega)) _)).trans (hb.mono (by first | omega | (simp <;> omega))))
  refine bodyPost_ret (v := .tuple #[fl r0, fl r1, fl r2]) (by simp [results, Try.results45, go_sem, c0, c1, c2]) rfl ⟨rfl, ?_⟩
  repeat (first | exact hb | refine Below.setCell ?_ (by first | omega | (simp <;> omega)) _)
set_option maxRecDepth 100000 in
set_option maxHeartbeats 2000000 in
theorem ZZlinProphotoToXyz_n011_293_c (x y z r0 r1 r2 : Nat) (w : World) (h0 : Row 4605360807233314590 4594038603377978885 4584678738446791632 x y z r0) (h1 : Row 4598861048020904497 4604586933246227991 4545948571150199221 x y z r1) (h2 : Row 0 0 4605607101106091995 x y z r2) :
    Calls Try.prog 29 #[.float .f64 x, .float .f64 y, .float .f64 z] w fun e w' => e = .returned (.tuple #[.float .f64 r0, .float .f64 r1, .float .f64 r2]) ∧ Below w.heap.size w w' := by
  have st := st_fl
  have H0 := Lib.hid h0; have H1 := Lib.hid h1; have H2 := Lib.hid h2
  clear h0 h1 h2
  go_enter Try.func29, Try.ntmps29
  go_wp2_with (first | (go_at_call 34; refine (new_c _ _).mono ?_; rintro e w' ⟨rfl, rfl⟩) | (go_at_call 45; (with_reducible refine (lin_prophoto_to_xyz_c _ _ _ _ _ _ _ H0.out H1.out H2.out).mono ?_); rintro e w' ⟨rfl, hb⟩; replace hb := (show Below w.heap.size w _ by repeat (first | exact Below.refl _ _ | refine Below.alloc ?_ (by first | omega | (simp <;> omega)) _)).trans (hb.mono (by first | omega | (simp <;> omega)))))
  refine wp_gen fun W hW => ?_
  have q0 : W.cell? ⟨w'.heap.size, 0, none⟩ = some (.float .f64 r0) := by rw [hW]; simp [go_sem]
  have q1 : W.cell? ⟨w'.heap.size + 1, 0, none⟩ = some (.float .f64 r1) := by rw [hW]; simp [go_sem]
  have q2 : W.cell? ⟨w'.heap.size + 1 + 1, 0, none⟩ = some (.float .f64 r2) := by rw [hW]; simp [go_sem]
  have hB : Below w.heap.size w W := by rw [hW]; have := hb.size; repeat (first | exact hb | refine Below.alloc ?_ (by first | omega | (simp <;> omega)) _)
  clear hW
  have g0 := fun d os => cell_regrown q0 d os
  have g1 := fun d os => cell_regrown q1 d os
  have g2 := fun d os => cell_regrown q2 d os
  refine wp_region_quiet_below (by kernel_rfl) (by kernel_rfl) ?_
  repeat (quiet_step (exact Calls.regrown_of (valB_c _ _)))
  refine wpQuiet_nil ?_
  intro W2 hw'
  have hB2 : Below W.heap.size W W2 := by
    obtain ⟨⟨dq, osq⟩, hw''⟩ := hw'
    rw [hw'']; exact below_regrown W dq osq
  clear hw' g0 g1 g2 q0 q1 q2
  go_wp2
  go_ret3
  exact ⟨rfl, hB.trans (hB2.mono hB.size)⟩
end Go.Proofs.Ytgflhgjigfpgiaa

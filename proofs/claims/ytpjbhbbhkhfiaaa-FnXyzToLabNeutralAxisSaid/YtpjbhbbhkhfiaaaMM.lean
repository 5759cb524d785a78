/- The contract of multiplyMatrices. -/
import Derived.Test.YtpjbhbbhkhfiaaaQT
import Derived.Test.YtpjbhbbhkhfiaaaF64
import Derived.Test.YtpjbhbbhkhfiaaaFlt
import Derived.BigQuiet
import Derived.BigFrame
namespace Go.Proofs.Ytpjbhbbhkhfiaaa
open Go.RowKit Go.Sort
open Flt (Row)
theorem wp_gen {c : Code} {P : Program} {Q : Exit → Act → World → Prop} {a : Act} {w0 : World} (h : ∀ W, W = w0 → c.wp P Q a W) : c.wp P Q a w0 := h _ rfl
abbrev mat (m0 m1 m2 m3 m4 m5 m6 m7 m8 : Nat) : Value := .agg #[.float .f64 m0, .float .f64 m1, .float .f64 m2, .float .f64 m3, .float .f64 m4, .float .f64 m5, .float .f64 m6, .float .f64 m7, .float .f64 m8]
set_option maxRecDepth 100000 in
set_option maxHeartbeats 2000000 in
theorem mm_c (m0 m1 m2 m3 m4 m5 m6 m7 m8 x y z r0 r1 r2 : Nat) (w : World) (h0 : Row m0 m1 m2 x y z r0) (h1 : Row m3 m4 m5 x y z r1) (h2 : Row m6 m7 m8 x y z r2) :
    Calls Try.prog 17 #[mat m0 m1 m2 m3 m4 m5 m6 m7 m8, fl x, fl y, fl z] w fun e w' => e = .returned (.tuple #[fl r0, fl r1, fl r2]) ∧ Below w.heap.size w w' := by
  have st := st_fl
  obtain ⟨p0, p1, s0, p2, a0, b0, c0, d0, e0⟩ := h0
  obtain ⟨p3, p4, s1, p5, a1, b1, c1, d1, e1⟩ := h1
  obtain ⟨p6, p7, s2, p8, a2, b2, c2, d2, e2⟩ := h2
  have A0 := Lib.hid a0; have B0 := Lib.hid b0; have C0 := Lib.hid c0; have D0 := Lib.hid d0; have E0 := Lib.hid e0
  have A1 := Lib.hid a1; have B1 := Lib.hid b1; have C1 := Lib.hid c1; have D1 := Lib.hid d1; have E1 := Lib.hid e1
  have A2 := Lib.hid a2; have B2 := Lib.hid b2; have C2 := Lib.hid c2; have D2 := Lib.hid d2; have E2 := Lib.hid e2
  clear a0 b0 c0 d0 e0 a1 b1 c1 d1 e1 a2 b2 c2 d2 e2
  go_enter Try.func17, Try.ntmps17
  go_wp2
  refine wp_gen fun W hW => ?_
  have q0 : W.cell? ⟨w.heap.size, 0, none⟩ = some (.float .f64 m0) := by rw [hW]; simp [go_sem]
  have q1 : W.cell? ⟨w.heap.size, 1, none⟩ = some (.float .f64 m1) := by rw [hW]; simp [go_sem]
  have q2 : W.cell? ⟨w.heap.size, 2, none⟩ = some (.float .f64 m2) := by rw [hW]; simp [go_sem]
  have q3 : W.cell? ⟨w.heap.size, 3, none⟩ = some (.float .f64 m3) := by rw [hW]; simp [go_sem]
  have q4 : W.cell? ⟨w.heap.size, 4, none⟩ = some (.float .f64 m4) := by rw [hW]; simp [go_sem]
  have q5 : W.cell? ⟨w.heap.size, 5, none⟩ = some (.float .f64 m5) := by rw [hW]; simp [go_sem]
  have q6 : W.cell? ⟨w.heap.size, 6, none⟩ = some (.float .f64 m6) := by rw [hW]; simp [go_sem]
  have q7 : W.cell? ⟨w.heap.size, 7, none⟩ = some (.float .f64 m7) := by rw [hW]; simp [go_sem]
  have q8 : W.cell? ⟨w.heap.size, 8, none⟩ = some (.float .f64 m8) := by rw [hW]; simp [go_sem]
  have q9 : W.cell? ⟨w.heap.size + 1, 0, none⟩ = some (.float .f64 x) := by rw [hW]; simp [go_sem]
  have q10 : W.cell? ⟨w.heap.size + 1 + 1, 0, none⟩ = some (.float .f64 y) := by rw [hW]; simp [go_sem]
  have q11 : W.cell? ⟨w.heap.size + 1 + 1 + 1, 0, none⟩ = some (.float .f64 z) := by rw [hW]; simp [go_sem]
  have q12 : W.cell? ⟨w.heap.size + 1 + 1 + 1 + 1, 0, none⟩ = some (.float .f64 0) := by rw [hW]; simp [go_sem]
  have z0 : W.frozen? ⟨w.heap.size + 1 + 1 + 1 + 1, 0, none⟩ = false := by rw [hW]; simp [go_sem]
  have q13 : W.cell? ⟨w.heap.size + 1 + 1 + 1 + 1 + 1, 0, none⟩ = some (.float .f64 0) := by rw [hW]; simp [go_sem]
  have z1 : W.frozen? ⟨w.heap.size + 1 + 1 + 1 + 1 + 1, 0, none⟩ = false := by rw [hW]; simp [go_sem]
  have q14 : W.cell? ⟨w.heap.size + 1 + 1 + 1 + 1 + 1 + 1, 0, none⟩ = some (.float .f64 0) := by rw [hW]; simp [go_sem]
  have z2 : W.frozen? ⟨w.heap.size + 1 + 1 + 1 + 1 + 1 + 1, 0, none⟩ = false := by rw [hW]; simp [go_sem]
  have hb : Below w.heap.size w W := by rw [hW]; repeat (first | exact Below.refl _ _ | refine Below.alloc ?_ (by simp <;> omega) _)
  clear hW
  have g0 := fun d os => cell_regrown q0 d os
  have g1 := fun d os => cell_regrown q1 d os
  have g2 := fun d os => cell_regrown q2 d os
  have g3 := fun d os => cell_regrown q3 d os
  have g4 := fun d os => cell_regrown q4 d os
  have g5 := fun d os => cell_regrown q5 d os
  have g6 := fun d os => cell_regrown q6 d os
  have g7 := fun d os => cell_regrown q7 d os
  have g8 := fun d os => cell_regrown q8 d os
  have g9 := fun d os => cell_regrown q9 d os
  have g10 := fun d os => cell_regrown q10 d os
  have g11 := fun d os => cell_regrown q11 d os
  refine QTail.wp_region_below_tail 42 (by kernel_rfl) (by kernel_rfl) (by kernel_rfl) ?_
  simp only [List.take_succ_cons, List.take_zero, List.drop_succ_cons, List.drop_zero]
  repeat (quiet_step (first | exact Calls.regrown_of (mulK_c _ _ _ _ A0.out) | exact Calls.regrown_of (mulK_c _ _ _ _ B0.out) | exact Calls.regrown_of (add_c _ _ _ _ C0.out) | exact Calls.regrown_of (mulK_c _ _ _ _ D0.out) | exact Calls.regrown_of (add_c _ _ _ _ E0.out) | exact Calls.regrown_of (mulK_c _ _ _ _ A1.out) | exact Calls.regrown_of (mulK_c _ _ _ _ B1.out) | exact Calls.regrown_of (add_c _ _ _ _ C1.out) | exact Calls.regrown_of (mulK_c _ _ _ _ D1.out) | exact Calls.regrown_of (add_c _ _ _ _ E1.out) | exact Calls.regrown_of (mulK_c _ _ _ _ A2.out) | exact Calls.regrown_of (mulK_c _ _ _ _ B2.out) | exact Calls.regrown_of (add_c _ _ _ _ C2.out) | exact Calls.regrown_of (mulK_c _ _ _ _ D2.out) | exact Calls.regrown_of (add_c _ _ _ _ E2.out)))
  refine wpQuiet_nil ?_
  intro W2 hw'
  have hB2 : Below W.heap.size W W2 := by
    obtain ⟨⟨dq, osq⟩, hw''⟩ := hw'
    rw [hw'']; exact below_regrown W dq osq
  clear hw' g0 g1 g2 g3 g4 g5 g6 g7 g8 g9 g10 g11
  have y0 : W2.cell? ⟨w.heap.size + 1 + 1 + 1 + 1, 0, none⟩ = some (.float .f64 0) := by rw [hB2.cell (block_lt_of_cell q12)]; exact q12
  have x0 : W2.frozen? ⟨w.heap.size + 1 + 1 + 1 + 1, 0, none⟩ = false := by rw [hB2.frozen (block_lt_of_cell q12)]; exact z0
  have y1 : W2.cell? ⟨w.heap.size + 1 + 1 + 1 + 1 + 1, 0, none⟩ = some (.float .f64 0) := by rw [hB2.cell (block_lt_of_cell q13)]; exact q13
  have x1 : W2.frozen? ⟨w.heap.size + 1 + 1 + 1 + 1 + 1, 0, none⟩ = false := by rw [hB2.frozen (block_lt_of_cell q13)]; exact z1
  have y2 : W2.cell? ⟨w.heap.size + 1 + 1 + 1 + 1 + 1 + 1, 0, none⟩ = some (.float .f64 0) := by rw [hB2.cell (block_lt_of_cell q14)]; exact q14
  have x2 : W2.frozen? ⟨w.heap.size + 1 + 1 + 1 + 1 + 1 + 1, 0, none⟩ = false := by rw [hB2.frozen (block_lt_of_cell q14)]; exact z2
  have hs : w.heap.size + 1 + 1 + 1 + 1 + 1 + 1 < W.heap.size := block_lt_of_cell q14
  have hT : Below w.heap.size w W2 := hb.trans (hB2.mono (by omega))
  clear q0 q1 q2 q3 q4 q5 q6 q7 q8 q9 q10 q11 q12 q13 q14 z0 z1 z2 hs hB2 hb
  go_wp2
  refine bodyPost_ret (v := .tuple #[fl r0, fl r1, fl r2]) (by simp [results, Try.results17, go_sem, y0, y1, y2]) rfl ⟨rfl, ?_⟩
  repeat (first | exact hT | refine Below.setCell ?_ (by simp <;> omega) _)

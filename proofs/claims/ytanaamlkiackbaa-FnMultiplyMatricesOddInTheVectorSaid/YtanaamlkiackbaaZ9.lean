/- The contract of multiplyMatrices' thin export at every argument. -/
import Derived.Test.YtanaamlkiackbaaMr
import Derived.Test.YtanaamlkiackbaaIG
import Derived.Test.YtanaamlkiackbaaFlo
set_option linter.unusedSimpArgs false
set_option linter.unusedVariables false
namespace Go.Proofs.Ytanaamlkiackbaa
open Go.RowKit Go.Sort
open Flt Ieee
def ThreeF (R0 R1 R2 : Nat → Prop) (w : World) (e : Ending) (w' : World) : Prop := ∃ r0 r1 r2, R0 r0 ∧ R1 r1 ∧ R2 r2 ∧ e = .returned (.tuple #[.float .f64 r0, .float .f64 r1, .float .f64 r2]) ∧ Below w.heap.size w w'
set_option maxRecDepth 100000 in
set_option maxHeartbeats 4000000 in
theorem zz9_c (m0 m1 m2 m3 m4 m5 m6 m7 m8 x y z : Nat) (w : World) :
    Calls Try.prog 9 #[.agg #[.float .f64 m0, .float .f64 m1, .float .f64 m2, .float .f64 m3, .float .f64 m4, .float .f64 m5, .float .f64 m6, .float .f64 m7, .float .f64 m8], .float .f64 x, .float .f64 y, .float .f64 z] w (ThreeF (Od.RowR m0 m1 m2 x y z) (Od.RowR m3 m4 m5 x y z) (Od.RowR m6 m7 m8 x y z) w) := by
  have st := st_fl
  go_enter Try.func9, Try.ntmps9
  go_upto_region 1 with (fail)
  refine wp_gen2 fun W hW => ?_
  have q0 : W.cell? ⟨w.heap.size, 0, none⟩ = some (.float .f64 m0) := by rw [hW]; simp [go_sem]
  have q1 : W.cell? ⟨w.heap.size, 1, none⟩ = some (.float .f64 m1) := by rw [hW]; simp [go_sem]
  have q2 : W.cell? ⟨w.heap.size, 2, none⟩ = some (.float .f64 m2) := by rw [hW]; simp [go_sem]
  have q3 : W.cell? ⟨w.heap.size, 3, none⟩ = some (.float .f64 m3) := by rw [hW]; simp [go_sem]
  have q4 : W.cell? ⟨w.heap.size, 4, none⟩ = some (.float .f64 m4) := by rw [hW]; simp [go_sem]
  have q5 : W.cell? ⟨w.heap.size, 5, none⟩ = some (.float .f64 m5) := by rw [hW]; simp [go_sem]
  have q6 : W.cell? ⟨w.heap.size, 6, none⟩ = some (.float .f64 m6) := by rw [hW]; simp [go_sem]
  have q7 : W.cell? ⟨w.heap.size, 7, none⟩ = some (.float .f64 m7) := by rw [hW]; simp [go_sem]
  have q8 : W.cell? ⟨w.heap.size, 8, none⟩ = some (.float .f64 m8) := by rw [hW]; simp [go_sem]
  have hB : Below w.heap.size w W := by rw [hW]; repeat (first | exact Below.refl _ _ | refine Below.alloc ?_ (by simp <;> omega) _)
  clear hW
  refine QRel.wp_region_rel [(fun v => v = .agg #[.float .f64 m0, .float .f64 m1, .float .f64 m2, .float .f64 m3, .float .f64 m4, .float .f64 m5, .float .f64 m6, .float .f64 m7, .float .f64 m8]), (fun v => v = .float .f64 x), (fun v => v = fl x), (fun v => v = .float .f64 y), (fun v => v = fl y), (fun v => v = .float .f64 z), (fun v => v = fl z), (fun v => ∃ r0 r1 r2, v = .tuple #[fl r0, fl r1, fl r2] ∧ Od.RowR m0 m1 m2 x y z r0 ∧ Od.RowR m3 m4 m5 x y z r1 ∧ Od.RowR m6 m7 m8 x y z r2), (fun v => ∃ r0 r1 r2, v = .tuple #[fl r0, fl r1, fl r2] ∧ Od.RowR m0 m1 m2 x y z r0 ∧ Od.RowR m3 m4 m5 x y z r1 ∧ Od.RowR m6 m7 m8 x y z r2), (fun v => ∃ r, v = fl r ∧ Od.RowR m0 m1 m2 x y z r), (fun v => ∃ r, v = fl r ∧ Od.RowR m3 m4 m5 x y z r), (fun v => ∃ r, v = fl r ∧ Od.RowR m6 m7 m8 x y z r), (fun v => True), (fun v => True), (fun v => True), (fun v => True), (fun v => True), (fun v => True)] [(12, 15, 9), (13, 16, 10), (14, 17, 11)] (by kernel_rfl) (by kernel_rfl) (by kernel_rfl) ?_ ?_
  · refine ⟨?_, ?_⟩
    · simp only [QRel.kindOf]
      intro vs w' hb hd
      have c0 := (hb.cell (block_lt_of_cell q0)).trans q0
      have c1 := (hb.cell (block_lt_of_cell q1)).trans q1
      have c2 := (hb.cell (block_lt_of_cell q2)).trans q2
      have c3 := (hb.cell (block_lt_of_cell q3)).trans q3
      have c4 := (hb.cell (block_lt_of_cell q4)).trans q4
      have c5 := (hb.cell (block_lt_of_cell q5)).trans q5
      have c6 := (hb.cell (block_lt_of_cell q6)).trans q6
      have c7 := (hb.cell (block_lt_of_cell q7)).trans q7
      have c8 := (hb.cell (block_lt_of_cell q8)).trans q8
      clear hb hd
      simp only [QTail.putA]
      go_wp2
      exact ⟨rfl, Below.refl _ _⟩
    refine ⟨?_, ?_⟩
    · simp only [QRel.kindOf]
      intro vs w' hb hd
      clear hb hd
      simp only [QTail.putA]
      go_wp2
      exact ⟨rfl, Below.refl _ _⟩
    refine ⟨?_, ?_⟩
    · simp only [QRel.kindOf]
      intro vs w' hb hd
      have d0 : vs 1 = .float .f64 x := hd ⟨1, .data⟩ (by simp) rfl (by kernel_rfl)
      clear hb hd
      simp only [QTail.putA]
      go_wp2_with (refine (newB_c _ _).mono ?_; rintro e u ⟨rfl, hb1⟩)
      first | exact rfl | exact ⟨rfl, hb1⟩
    refine ⟨?_, ?_⟩
    · simp only [QRel.kindOf]
      intro vs w' hb hd
      clear hb hd
      simp only [QTail.putA]
      go_wp2
      exact ⟨rfl, Below.refl _ _⟩
    refine ⟨?_, ?_⟩
    · simp only [QRel.kindOf]
      intro vs w' hb hd
      have d0 : vs 3 = .float .f64 y := hd ⟨3, .data⟩ (by simp) rfl (by kernel_rfl)
      clear hb hd
      simp only [QTail.putA]
      go_wp2_with (refine (newB_c _ _).mono ?_; rintro e u ⟨rfl, hb1⟩)
      first | exact rfl | exact ⟨rfl, hb1⟩
    refine ⟨?_, ?_⟩
    · simp only [QRel.kindOf]
      intro vs w' hb hd
      clear hb hd
      simp only [QTail.putA]
      go_wp2
      exact ⟨rfl, Below.refl _ _⟩
    refine ⟨?_, ?_⟩
    · simp only [QRel.kindOf]
      intro vs w' hb hd
      have d0 : vs 5 = .float .f64 z := hd ⟨5, .data⟩ (by simp) rfl (by kernel_rfl)
      clear hb hd
      simp only [QTail.putA]
      go_wp2_with (refine (newB_c _ _).mono ?_; rintro e u ⟨rfl, hb1⟩)
      first | exact rfl | exact ⟨rfl, hb1⟩
    refine ⟨?_, ?_⟩
    · simp only [QRel.kindOf]
      intro vs w' hb hd
      have d0 : vs 0 = .agg #[.float .f64 m0, .float .f64 m1, .float .f64 m2, .float .f64 m3, .float .f64 m4, .float .f64 m5, .float .f64 m6, .float .f64 m7, .float .f64 m8] := hd ⟨0, .data⟩ (by simp) rfl (by kernel_rfl)
      have d1 : vs 2 = fl x := hd ⟨2, .data⟩ (by simp) rfl (by kernel_rfl)
      have d2 : vs 4 = fl y := hd ⟨4, .data⟩ (by simp) rfl (by kernel_rfl)
      have d3 : vs 6 = fl z := hd ⟨6, .data⟩ (by simp) rfl (by kernel_rfl)
      clear hb hd
      simp only [QTail.putA]
      go_wp2_with (refine (mmr_c _ _ _ _ _ _ _ _ _ _ _ _ _).mono ?_; rintro e u ⟨r0, r1, r2, h0, h1, h2, rfl, hb1⟩; replace h0 := Lib.hid h0; replace h1 := Lib.hid h1; replace h2 := Lib.hid h2)
      first | exact ⟨r0, r1, r2, rfl, h0.out, h1.out, h2.out⟩ | exact ⟨⟨r0, r1, r2, rfl, h0.out, h1.out, h2.out⟩, hb1⟩
    refine ⟨?_, ?_⟩
    · simp only [QRel.kindOf]
      intro vs w' hb hd
      obtain ⟨r0, r1, r2, d0, h0, h1, h2⟩ : ∃ r0 r1 r2, vs 7 = .tuple #[fl r0, fl r1, fl r2] ∧ Od.RowR m0 m1 m2 x y z r0 ∧ Od.RowR m3 m4 m5 x y z r1 ∧ Od.RowR m6 m7 m8 x y z r2 := hd ⟨7, .data⟩ (by simp) rfl (by kernel_rfl)
      replace h0 := Lib.hid h0; replace h1 := Lib.hid h1; replace h2 := Lib.hid h2
      clear hb hd
      simp only [QTail.putA]
      go_wp2
      exact ⟨⟨r0, r1, r2, rfl, h0.out, h1.out, h2.out⟩, Below.refl _ _⟩
    refine ⟨?_, ?_⟩
    · simp only [QRel.kindOf]
      intro vs w' hb hd
      obtain ⟨r0, r1, r2, d0, h0, h1, h2⟩ : ∃ r0 r1 r2, vs 8 = .tuple #[fl r0, fl r1, fl r2] ∧ Od.RowR m0 m1 m2 x y z r0 ∧ Od.RowR m3 m4 m5 x y z r1 ∧ Od.RowR m6 m7 m8 x y z r2 := hd ⟨8, .data⟩ (by simp) rfl (by kernel_rfl)
      replace h0 := Lib.hid h0; replace h1 := Lib.hid h1; replace h2 := Lib.hid h2
      clear hb hd
      simp only [QTail.putA]
      go_wp2
      exact ⟨⟨r0, rfl, h0.out⟩, Below.refl _ _⟩
    refine ⟨?_, ?_⟩
    · simp only [QRel.kindOf]
      intro vs w' hb hd
      obtain ⟨r0, r1, r2, d0, h0, h1, h2⟩ : ∃ r0 r1 r2, vs 8 = .tuple #[fl r0, fl r1, fl r2] ∧ Od.RowR m0 m1 m2 x y z r0 ∧ Od.RowR m3 m4 m5 x y z r1 ∧ Od.RowR m6 m7 m8 x y z r2 := hd ⟨8, .data⟩ (by simp) rfl (by kernel_rfl)
      replace h0 := Lib.hid h0; replace h1 := Lib.hid h1; replace h2 := Lib.hid h2
      clear hb hd
      simp only [QTail.putA]
      go_wp2
      exact ⟨⟨r1, rfl, h1.out⟩, Below.refl _ _⟩
    refine ⟨?_, ?_⟩
    · simp only [QRel.kindOf]
      intro vs w' hb hd
      obtain ⟨r0, r1, r2, d0, h0, h1, h2⟩ : ∃ r0 r1 r2, vs 8 = .tuple #[fl r0, fl r1, fl r2] ∧ Od.RowR m0 m1 m2 x y z r0 ∧ Od.RowR m3 m4 m5 x y z r1 ∧ Od.RowR m6 m7 m8 x y z r2 := hd ⟨8, .data⟩ (by simp) rfl (by kernel_rfl)
      replace h0 := Lib.hid h0; replace h1 := Lib.hid h1; replace h2 := Lib.hid h2
      clear hb hd
      simp only [QTail.putA]
      go_wp2
      exact ⟨⟨r2, rfl, h2.out⟩, Below.refl _ _⟩
    refine ⟨?_, ?_⟩
    · simp only [QRel.kindOf]
      intro vs w'
      simp only [QTail.putA]
      go_wp2
      exact ⟨_, _, rfl⟩
    refine ⟨?_, ?_⟩
    · simp only [QRel.kindOf]
      intro vs w'
      simp only [QTail.putA]
      go_wp2
      exact ⟨_, _, rfl⟩
    refine ⟨?_, ?_⟩
    · simp only [QRel.kindOf]
      intro vs w'
      simp only [QTail.putA]
      go_wp2
      exact ⟨_, _, rfl⟩
    refine ⟨?_, ?_⟩
    · simp only [QRel.kindOf]
      intro vs w' b xx hb hd hc hf
      obtain ⟨r, d0, -⟩ : ∃ r, vs 9 = fl r ∧ Od.RowR m0 m1 m2 x y z r := hd ⟨9, .data⟩ (by simp) rfl (by kernel_rfl)
      clear hd
      simp only [QTail.putA]
      rw [d0]
      go_wp2
      all_goals rfl
    refine ⟨?_, ?_⟩
    · simp only [QRel.kindOf]
      intro vs w' b xx hb hd hc hf
      obtain ⟨r, d0, -⟩ : ∃ r, vs 10 = fl r ∧ Od.RowR m3 m4 m5 x y z r := hd ⟨10, .data⟩ (by simp) rfl (by kernel_rfl)
      clear hd
      simp only [QTail.putA]
      rw [d0]
      go_wp2
      all_goals rfl
    refine ⟨?_, ?_⟩
    · simp only [QRel.kindOf]
      intro vs w' b xx hb hd hc hf
      obtain ⟨r, d0, -⟩ : ∃ r, vs 11 = fl r ∧ Od.RowR m6 m7 m8 x y z r := hd ⟨11, .data⟩ (by simp) rfl (by kernel_rfl)
      clear hd
      simp only [QTail.putA]
      rw [d0]
      go_wp2
      all_goals rfl
    trivial
  · intro vs W2 hb hv hn hne
    obtain ⟨r0, e0, R0⟩ : ∃ r, vs 9 = fl r ∧ Od.RowR m0 m1 m2 x y z r := hv 9 (by simp) (by kernel_rfl)
    obtain ⟨r1, e1, R1⟩ : ∃ r, vs 10 = fl r ∧ Od.RowR m3 m4 m5 x y z r := hv 10 (by simp) (by kernel_rfl)
    obtain ⟨r2, e2, R2⟩ : ∃ r, vs 11 = fl r ∧ Od.RowR m6 m7 m8 x y z r := hv 11 (by simp) (by kernel_rfl)
    obtain ⟨b0, p0, s0, f0, c0⟩ := hn (12, 15, 9) (by simp)
    obtain ⟨b1, p1, s1, f1, c1⟩ := hn (13, 16, 10) (by simp)
    obtain ⟨b2, p2, s2, f2, c2⟩ := hn (14, 17, 11) (by simp)
    simp only [e0, QRel.unfl] at c0
    simp only [e1, QRel.unfl] at c1
    simp only [e2, QRel.unfl] at c2
    replace c0 : W2.cell? ⟨b0, 0, none⟩ = some (.float .f64 r0) := c0
    replace c1 : W2.cell? ⟨b1, 0, none⟩ = some (.float .f64 r1) := c1
    replace c2 : W2.cell? ⟨b2, 0, none⟩ = some (.float .f64 r2) := c2
    replace R0 := Lib.hid R0; replace R1 := Lib.hid R1; replace R2 := Lib.hid R2
    have hT : Below w.heap.size w W2 := hB.trans (hb.mono hB.size)
    clear hv hn hne hb hB q0 q1 q2 q3 q4 q5 q6 q7 q8
    simp only [QTail.putA]
    have g0 := fun d os => cell_regrown c0 d os
    have g1 := fun d os => cell_regrown c1 d os
    have g2 := fun d os => cell_regrown c2 d os
    go_upto_region 2 with (fail)
    refine wp_region_quiet_below (by kernel_rfl) (by kernel_rfl) ?_
    repeat (quiet_step (exact Calls.regrown_of (valB_c _ _)))
    refine wpQuiet_nil ?_
    clear g0 g1 g2
    intro W3 hw
    have hB3 : Below w.heap.size w W3 := by
      obtain ⟨⟨d, os⟩, rfl⟩ := hw
      exact hT.trans ((below_regrown W2 d os).mono hT.size)
    clear hw
    go_wp2
    go_ret3
    exact ⟨r0, r1, r2, R0.out, R1.out, R2.out, rfl, hB3⟩
end Go.Proofs.Ytanaamlkiackbaa

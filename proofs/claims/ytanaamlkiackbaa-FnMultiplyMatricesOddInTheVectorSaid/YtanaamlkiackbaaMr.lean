/- The contract of multiplyMatrices at every argument. -/
import Derived.Test.YtanaamlkiackbaaOd
import Derived.Test.YtanaamlkiackbaaIR
import Derived.Deep.Cut
import Derived.BigQuiet
import Derived.Outline
set_option linter.unusedSimpArgs false
set_option linter.unusedVariables false
namespace Go.Proofs.Ytanaamlkiackbaa
open Go.RowKit Go.Sort
open Flt Ieee
def Three (R0 R1 R2 : Nat → Prop) (w : World) (e : Ending) (w' : World) : Prop := ∃ r0 r1 r2, R0 r0 ∧ R1 r1 ∧ R2 r2 ∧ e = .returned (.tuple #[fl r0, fl r1, fl r2]) ∧ Below w.heap.size w w'
theorem wp_gen2 {c : Code} {P : Program} {Q : Exit → Act → World → Prop} {a : Act} {w0 : World} (h : ∀ W, W = w0 → c.wp P Q a W) : c.wp P Q a w0 := h _ rfl
set_option maxRecDepth 100000 in
set_option maxHeartbeats 4000000 in
theorem mmr_c (m0 m1 m2 m3 m4 m5 m6 m7 m8 x y z : Nat) (w : World) :
    Calls Try.prog 22 #[.agg #[.float .f64 m0, .float .f64 m1, .float .f64 m2, .float .f64 m3, .float .f64 m4, .float .f64 m5, .float .f64 m6, .float .f64 m7, .float .f64 m8], fl x, fl y, fl z] w (Three (Od.RowR m0 m1 m2 x y z) (Od.RowR m3 m4 m5 x y z) (Od.RowR m6 m7 m8 x y z) w) := by
  have st := st_fl
  go_enter Try.func22, Try.ntmps22
  go_upto_region 1 with (fail)
  refine wp_gen2 fun W hW => ?_
  have q0 : W.cell? ⟨w.heap.size, 0, none⟩ = some (.float .f64 m0) := by rw [hW]; simp [go_sem]
  have q1 : W.cell? ⟨w.heap.size, 1, none⟩ = some (.float .f64 m1) := by rw [hW]; simp [go_sem]
  have q2 : W.cell? ⟨w.heap.size, 2, none⟩ = some (.float .f64 m2) := by rw [hW]; simp [go_sem]
  have q3 : W.cell? ⟨w.heap.size, 3, none⟩ = some (.float .f64 m3) := by rw [hW]; simp [go_sem]
  have q4 : W.cell? ⟨w.heap.size, 4, none⟩ = some (.float .f64 m4) := by rw [hW]; simp [go_sem]
  have q5 : W.cell? ⟨w.heap.size, 5, none⟩ = some (.float .f64 m5) := by rw [hW]; simp [go_sem]
  have q6 : W.cell? ⟨w.heap.size, 6, none⟩ = some (.float .f64 m6) := by rw [hW]; simp [go_sem]
  have q7 : W.cell? ⟨w.heap.size, 7, none⟩ = some (.float .f64 m7) := by rw [hW]; simp [go_sem]
  have q8 : W.cell? ⟨w.heap.size, 8, none⟩ = some (.float .f64 m8) := by rw [hW]; simp [go_sem]
  have q9 : W.cell? ⟨w.heap.size + 1, 0, none⟩ = some (.float .f64 x) := by rw [hW]; simp [go_sem]
  have q10 : W.cell? ⟨w.heap.size + 1 + 1, 0, none⟩ = some (.float .f64 y) := by rw [hW]; simp [go_sem]
  have q11 : W.cell? ⟨w.heap.size + 1 + 1 + 1, 0, none⟩ = some (.float .f64 z) := by rw [hW]; simp [go_sem]
  have q12 : W.cell? ⟨w.heap.size + 1 + 1 + 1 + 1, 0, none⟩ = some (.float .f64 0) := by rw [hW]; simp [go_sem]
  have q13 : W.cell? ⟨w.heap.size + 1 + 1 + 1 + 1 + 1, 0, none⟩ = some (.float .f64 0) := by rw [hW]; simp [go_sem]
  have q14 : W.cell? ⟨w.heap.size + 1 + 1 + 1 + 1 + 1 + 1, 0, none⟩ = some (.float .f64 0) := by rw [hW]; simp [go_sem]
  have z0 : W.frozen? ⟨w.heap.size + 1 + 1 + 1 + 1, 0, none⟩ = false := by rw [hW]; simp [go_sem]
  have z1 : W.frozen? ⟨w.heap.size + 1 + 1 + 1 + 1 + 1, 0, none⟩ = false := by rw [hW]; simp [go_sem]
  have z2 : W.frozen? ⟨w.heap.size + 1 + 1 + 1 + 1 + 1 + 1, 0, none⟩ = false := by rw [hW]; simp [go_sem]
  have hB : Below w.heap.size w W := by rw [hW]; repeat (first | exact Below.refl _ _ | refine Below.alloc ?_ (by simp <;> omega) _)
  clear hW
  refine QTail.wp_region_rels 42 [(fun v => v = fl x), (fun v => v = .pointer (some ⟨w.heap.size, 0, none⟩)), (fun v => v = .float .f64 m0), (fun v => ∃ p, v = fl p ∧ BR .mul x m0 p), (fun v => v = fl y), (fun v => v = .pointer (some ⟨w.heap.size, 1, none⟩)), (fun v => v = .float .f64 m1), (fun v => ∃ p, v = fl p ∧ BR .mul y m1 p), (fun v => ∃ s, v = fl s ∧ ∃ p0 p1, BR .mul x m0 p0 ∧ BR .mul y m1 p1 ∧ BR .add p0 p1 s), (fun v => v = fl z), (fun v => v = .pointer (some ⟨w.heap.size, 2, none⟩)), (fun v => v = .float .f64 m2), (fun v => ∃ p, v = fl p ∧ BR .mul z m2 p), (fun v => ∃ r, v = fl r ∧ Od.RowR m0 m1 m2 x y z r), (fun v => v = fl x), (fun v => v = .pointer (some ⟨w.heap.size, 3, none⟩)), (fun v => v = .float .f64 m3), (fun v => ∃ p, v = fl p ∧ BR .mul x m3 p), (fun v => v = fl y), (fun v => v = .pointer (some ⟨w.heap.size, 4, none⟩)), (fun v => v = .float .f64 m4), (fun v => ∃ p, v = fl p ∧ BR .mul y m4 p), (fun v => ∃ s, v = fl s ∧ ∃ p0 p1, BR .mul x m3 p0 ∧ BR .mul y m4 p1 ∧ BR .add p0 p1 s), (fun v => v = fl z), (fun v => v = .pointer (some ⟨w.heap.size, 5, none⟩)), (fun v => v = .float .f64 m5), (fun v => ∃ p, v = fl p ∧ BR .mul z m5 p), (fun v => ∃ r, v = fl r ∧ Od.RowR m3 m4 m5 x y z r), (fun v => v = fl x), (fun v => v = .pointer (some ⟨w.heap.size, 6, none⟩)), (fun v => v = .float .f64 m6), (fun v => ∃ p, v = fl p ∧ BR .mul x m6 p), (fun v => v = fl y), (fun v => v = .pointer (some ⟨w.heap.size, 7, none⟩)), (fun v => v = .float .f64 m7), (fun v => ∃ p, v = fl p ∧ BR .mul y m7 p), (fun v => ∃ s, v = fl s ∧ ∃ p0 p1, BR .mul x m6 p0 ∧ BR .mul y m7 p1 ∧ BR .add p0 p1 s), (fun v => v = fl z), (fun v => v = .pointer (some ⟨w.heap.size, 8, none⟩)), (fun v => v = .float .f64 m8), (fun v => ∃ p, v = fl p ∧ BR .mul z m8 p), (fun v => ∃ r, v = fl r ∧ Od.RowR m6 m7 m8 x y z r)] (by kernel_rfl) (by kernel_rfl) ?_ ?_
  · simp only [List.take_succ_cons, List.take_zero]
    refine ⟨?_, ?_⟩
    · intro vs w' hb hd
      have c := (hb.cell (block_lt_of_cell q9)).trans q9
      clear hb hd
      simp only [QTail.putA, List.take_succ_cons, List.take_zero]
      go_wp2
      exact ⟨rfl, Below.refl _ _⟩
    refine ⟨?_, ?_⟩
    · intro vs w' hb hd
      clear hb hd
      simp only [QTail.putA, List.take_succ_cons, List.take_zero]
      go_wp2
      exact ⟨rfl, Below.refl _ _⟩
    refine ⟨?_, ?_⟩
    · intro vs w' hb hd
      have d0 : vs 1 = .pointer (some ⟨w.heap.size, 0, none⟩) := hd ⟨1, .data⟩ (by simp) rfl
      have c := (hb.cell (block_lt_of_cell q0)).trans q0
      clear hb hd
      simp only [QTail.putA, List.take_succ_cons, List.take_zero]
      go_wp2
      exact ⟨rfl, Below.refl _ _⟩
    refine ⟨?_, ?_⟩
    · intro vs w' hb hd
      have d0 : vs 0 = fl x := hd ⟨0, .data⟩ (by simp) rfl
      have d1 : vs 2 = .float .f64 m0 := hd ⟨2, .data⟩ (by simp) rfl
      clear hb hd
      simp only [QTail.putA, List.take_succ_cons, List.take_zero]
      go_wp2_with (refine (mulK_r _ _ _).mono ?_; rintro e u ⟨r, hr, rfl, hb1⟩; replace hr := Lib.hid hr)
      exact ⟨r, rfl, hr.out⟩
    refine ⟨?_, ?_⟩
    · intro vs w' hb hd
      have c := (hb.cell (block_lt_of_cell q10)).trans q10
      clear hb hd
      simp only [QTail.putA, List.take_succ_cons, List.take_zero]
      go_wp2
      exact ⟨rfl, Below.refl _ _⟩
    refine ⟨?_, ?_⟩
    · intro vs w' hb hd
      clear hb hd
      simp only [QTail.putA, List.take_succ_cons, List.take_zero]
      go_wp2
      exact ⟨rfl, Below.refl _ _⟩
    refine ⟨?_, ?_⟩
    · intro vs w' hb hd
      have d0 : vs 5 = .pointer (some ⟨w.heap.size, 1, none⟩) := hd ⟨5, .data⟩ (by simp) rfl
      have c := (hb.cell (block_lt_of_cell q1)).trans q1
      clear hb hd
      simp only [QTail.putA, List.take_succ_cons, List.take_zero]
      go_wp2
      exact ⟨rfl, Below.refl _ _⟩
    refine ⟨?_, ?_⟩
    · intro vs w' hb hd
      have d0 : vs 4 = fl y := hd ⟨4, .data⟩ (by simp) rfl
      have d1 : vs 6 = .float .f64 m1 := hd ⟨6, .data⟩ (by simp) rfl
      clear hb hd
      simp only [QTail.putA, List.take_succ_cons, List.take_zero]
      go_wp2_with (refine (mulK_r _ _ _).mono ?_; rintro e u ⟨r, hr, rfl, hb1⟩; replace hr := Lib.hid hr)
      exact ⟨r, rfl, hr.out⟩
    refine ⟨?_, ?_⟩
    · intro vs w' hb hd
      obtain ⟨p0, d0, b0⟩ : ∃ p, vs 3 = fl p ∧ BR .mul x m0 p := hd ⟨3, .data⟩ (by simp) rfl
      obtain ⟨p1, d1, b1⟩ : ∃ p, vs 7 = fl p ∧ BR .mul y m1 p := hd ⟨7, .data⟩ (by simp) rfl
      replace b0 := Lib.hid b0
      replace b1 := Lib.hid b1
      clear hb hd
      simp only [QTail.putA, List.take_succ_cons, List.take_zero]
      go_wp2_with (refine (add_r _ _ _).mono ?_; rintro e u ⟨r, hr, rfl, hb1⟩; replace hr := Lib.hid hr)
      first | exact ⟨r, rfl, p0, p1, b0.out, b1.out, hr.out⟩ | exact ⟨r, rfl, p0, b0.out, p1, b1.out, hr.out⟩
    refine ⟨?_, ?_⟩
    · intro vs w' hb hd
      have c := (hb.cell (block_lt_of_cell q11)).trans q11
      clear hb hd
      simp only [QTail.putA, List.take_succ_cons, List.take_zero]
      go_wp2
      exact ⟨rfl, Below.refl _ _⟩
    refine ⟨?_, ?_⟩
    · intro vs w' hb hd
      clear hb hd
      simp only [QTail.putA, List.take_succ_cons, List.take_zero]
      go_wp2
      exact ⟨rfl, Below.refl _ _⟩
    refine ⟨?_, ?_⟩
    · intro vs w' hb hd
      have d0 : vs 10 = .pointer (some ⟨w.heap.size, 2, none⟩) := hd ⟨10, .data⟩ (by simp) rfl
      have c := (hb.cell (block_lt_of_cell q2)).trans q2
      clear hb hd
      simp only [QTail.putA, List.take_succ_cons, List.take_zero]
      go_wp2
      exact ⟨rfl, Below.refl _ _⟩
    refine ⟨?_, ?_⟩
    · intro vs w' hb hd
      have d0 : vs 9 = fl z := hd ⟨9, .data⟩ (by simp) rfl
      have d1 : vs 11 = .float .f64 m2 := hd ⟨11, .data⟩ (by simp) rfl
      clear hb hd
      simp only [QTail.putA, List.take_succ_cons, List.take_zero]
      go_wp2_with (refine (mulK_r _ _ _).mono ?_; rintro e u ⟨r, hr, rfl, hb1⟩; replace hr := Lib.hid hr)
      exact ⟨r, rfl, hr.out⟩
    refine ⟨?_, ?_⟩
    · intro vs w' hb hd
      obtain ⟨s, d0, p0, p1, b0, b1, b2⟩ : ∃ s, vs 8 = fl s ∧ ∃ p0 p1, BR .mul x m0 p0 ∧ BR .mul y m1 p1 ∧ BR .add p0 p1 s := hd ⟨8, .data⟩ (by simp) rfl
      obtain ⟨p2, d1, b3⟩ : ∃ p, vs 12 = fl p ∧ BR .mul z m2 p := hd ⟨12, .data⟩ (by simp) rfl
      replace b0 := Lib.hid b0
      replace b1 := Lib.hid b1
      replace b2 := Lib.hid b2
      replace b3 := Lib.hid b3
      clear hb hd
      simp only [QTail.putA, List.take_succ_cons, List.take_zero]
      go_wp2_with (refine (add_r _ _ _).mono ?_; rintro e u ⟨r, hr, rfl, hb1⟩; replace hr := Lib.hid hr)
      exact ⟨r, rfl, p0, p1, s, p2, b0.out, b1.out, b2.out, b3.out, hr.out⟩
    refine ⟨?_, ?_⟩
    · intro vs w' hb hd
      have c := (hb.cell (block_lt_of_cell q9)).trans q9
      clear hb hd
      simp only [QTail.putA, List.take_succ_cons, List.take_zero]
      go_wp2
      exact ⟨rfl, Below.refl _ _⟩
    refine ⟨?_, ?_⟩
    · intro vs w' hb hd
      clear hb hd
      simp only [QTail.putA, List.take_succ_cons, List.take_zero]
      go_wp2
      exact ⟨rfl, Below.refl _ _⟩
    refine ⟨?_, ?_⟩
    · intro vs w' hb hd
      have d0 : vs 15 = .pointer (some ⟨w.heap.size, 3, none⟩) := hd ⟨15, .data⟩ (by simp) rfl
      have c := (hb.cell (block_lt_of_cell q3)).trans q3
      clear hb hd
      simp only [QTail.putA, List.take_succ_cons, List.take_zero]
      go_wp2
      exact ⟨rfl, Below.refl _ _⟩
    refine ⟨?_, ?_⟩
    · intro vs w' hb hd
      have d0 : vs 14 = fl x := hd ⟨14, .data⟩ (by simp) rfl
      have d1 : vs 16 = .float .f64 m3 := hd ⟨16, .data⟩ (by simp) rfl
      clear hb hd
      simp only [QTail.putA, List.take_succ_cons, List.take_zero]
      go_wp2_with (refine (mulK_r _ _ _).mono ?_; rintro e u ⟨r, hr, rfl, hb1⟩; replace hr := Lib.hid hr)
      exact ⟨r, rfl, hr.out⟩
    refine ⟨?_, ?_⟩
    · intro vs w' hb hd
      have c := (hb.cell (block_lt_of_cell q10)).trans q10
      clear hb hd
      simp only [QTail.putA, List.take_succ_cons, List.take_zero]
      go_wp2
      exact ⟨rfl, Below.refl _ _⟩
    refine ⟨?_, ?_⟩
    · intro vs w' hb hd
      clear hb hd
      simp only [QTail.putA, List.take_succ_cons, List.take_zero]
      go_wp2
      exact ⟨rfl, Below.refl _ _⟩
    refine ⟨?_, ?_⟩
    · intro vs w' hb hd
      have d0 : vs 19 = .pointer (some ⟨w.heap.size, 4, none⟩) := hd ⟨19, .data⟩ (by simp) rfl
      have c := (hb.cell (block_lt_of_cell q4)).trans q4
      clear hb hd
      simp only [QTail.putA, List.take_succ_cons, List.take_zero]
      go_wp2
      exact ⟨rfl, Below.refl _ _⟩
    refine ⟨?_, ?_⟩
    · intro vs w' hb hd
      have d0 : vs 18 = fl y := hd ⟨18, .data⟩ (by simp) rfl
      have d1 : vs 20 = .float .f64 m4 := hd ⟨20, .data⟩ (by simp) rfl
      clear hb hd
      simp only [QTail.putA, List.take_succ_cons, List.take_zero]
      go_wp2_with (refine (mulK_r _ _ _).mono ?_; rintro e u ⟨r, hr, rfl, hb1⟩; replace hr := Lib.hid hr)
      exact ⟨r, rfl, hr.out⟩
    refine ⟨?_, ?_⟩
    · intro vs w' hb hd
      obtain ⟨p0, d0, b0⟩ : ∃ p, vs 17 = fl p ∧ BR .mul x m3 p := hd ⟨17, .data⟩ (by simp) rfl
      obtain ⟨p1, d1, b1⟩ : ∃ p, vs 21 = fl p ∧ BR .mul y m4 p := hd ⟨21, .data⟩ (by simp) rfl
      replace b0 := Lib.hid b0
      replace b1 := Lib.hid b1
      clear hb hd
      simp only [QTail.putA, List.take_succ_cons, List.take_zero]
      go_wp2_with (refine (add_r _ _ _).mono ?_; rintro e u ⟨r, hr, rfl, hb1⟩; replace hr := Lib.hid hr)
      first | exact ⟨r, rfl, p0, p1, b0.out, b1.out, hr.out⟩ | exact ⟨r, rfl, p0, b0.out, p1, b1.out, hr.out⟩
    refine ⟨?_, ?_⟩
    · intro vs w' hb hd
      have c := (hb.cell (block_lt_of_cell q11)).trans q11
      clear hb hd
      simp only [QTail.putA, List.take_succ_cons, List.take_zero]
      go_wp2
      exact ⟨rfl, Below.refl _ _⟩
    refine ⟨?_, ?_⟩
    · intro vs w' hb hd
      clear hb hd
      simp only [QTail.putA, List.take_succ_cons, List.take_zero]
      go_wp2
      exact ⟨rfl, Below.refl _ _⟩
    refine ⟨?_, ?_⟩
    · intro vs w' hb hd
      have d0 : vs 24 = .pointer (some ⟨w.heap.size, 5, none⟩) := hd ⟨24, .data⟩ (by simp) rfl
      have c := (hb.cell (block_lt_of_cell q5)).trans q5
      clear hb hd
      simp only [QTail.putA, List.take_succ_cons, List.take_zero]
      go_wp2
      exact ⟨rfl, Below.refl _ _⟩
    refine ⟨?_, ?_⟩
    · intro vs w' hb hd
      have d0 : vs 23 = fl z := hd ⟨23, .data⟩ (by simp) rfl
      have d1 : vs 25 = .float .f64 m5 := hd ⟨25, .data⟩ (by simp) rfl
      clear hb hd
      simp only [QTail.putA, List.take_succ_cons, List.take_zero]
      go_wp2_with (refine (mulK_r _ _ _).mono ?_; rintro e u ⟨r, hr, rfl, hb1⟩; replace hr := Lib.hid hr)
      exact ⟨r, rfl, hr.out⟩
    refine ⟨?_, ?_⟩
    · intro vs w' hb hd
      obtain ⟨s, d0, p0, p1, b0, b1, b2⟩ : ∃ s, vs 22 = fl s ∧ ∃ p0 p1, BR .mul x m3 p0 ∧ BR .mul y m4 p1 ∧ BR .add p0 p1 s := hd ⟨22, .data⟩ (by simp) rfl
      obtain ⟨p2, d1, b3⟩ : ∃ p, vs 26 = fl p ∧ BR .mul z m5 p := hd ⟨26, .data⟩ (by simp) rfl
      replace b0 := Lib.hid b0
      replace b1 := Lib.hid b1
      replace b2 := Lib.hid b2
      replace b3 := Lib.hid b3
      clear hb hd
      simp only [QTail.putA, List.take_succ_cons, List.take_zero]
      go_wp2_with (refine (add_r _ _ _).mono ?_; rintro e u ⟨r, hr, rfl, hb1⟩; replace hr := Lib.hid hr)
      exact ⟨r, rfl, p0, p1, s, p2, b0.out, b1.out, b2.out, b3.out, hr.out⟩
    refine ⟨?_, ?_⟩
    · intro vs w' hb hd
      have c := (hb.cell (block_lt_of_cell q9)).trans q9
      clear hb hd
      simp only [QTail.putA, List.take_succ_cons, List.take_zero]
      go_wp2
      exact ⟨rfl, Below.refl _ _⟩
    refine ⟨?_, ?_⟩
    · intro vs w' hb hd
      clear hb hd
      simp only [QTail.putA, List.take_succ_cons, List.take_zero]
      go_wp2
      exact ⟨rfl, Below.refl _ _⟩
    refine ⟨?_, ?_⟩
    · intro vs w' hb hd
      have d0 : vs 29 = .pointer (some ⟨w.heap.size, 6, none⟩) := hd ⟨29, .data⟩ (by simp) rfl
      have c := (hb.cell (block_lt_of_cell q6)).trans q6
      clear hb hd
      simp only [QTail.putA, List.take_succ_cons, List.take_zero]
      go_wp2
      exact ⟨rfl, Below.refl _ _⟩
    refine ⟨?_, ?_⟩
    · intro vs w' hb hd
      have d0 : vs 28 = fl x := hd ⟨28, .data⟩ (by simp) rfl
      have d1 : vs 30 = .float .f64 m6 := hd ⟨30, .data⟩ (by simp) rfl
      clear hb hd
      simp only [QTail.putA, List.take_succ_cons, List.take_zero]
      go_wp2_with (refine (mulK_r _ _ _).mono ?_; rintro e u ⟨r, hr, rfl, hb1⟩; replace hr := Lib.hid hr)
      exact ⟨r, rfl, hr.out⟩
    refine ⟨?_, ?_⟩
    · intro vs w' hb hd
      have c := (hb.cell (block_lt_of_cell q10)).trans q10
      clear hb hd
      simp only [QTail.putA, List.take_succ_cons, List.take_zero]
      go_wp2
      exact ⟨rfl, Below.refl _ _⟩
    refine ⟨?_, ?_⟩
    · intro vs w' hb hd
      clear hb hd
      simp only [QTail.putA, List.take_succ_cons, List.take_zero]
      go_wp2
      exact ⟨rfl, Below.refl _ _⟩
    refine ⟨?_, ?_⟩
    · intro vs w' hb hd
      have d0 : vs 33 = .pointer (some ⟨w.heap.size, 7, none⟩) := hd ⟨33, .data⟩ (by simp) rfl
      have c := (hb.cell (block_lt_of_cell q7)).trans q7
      clear hb hd
      simp only [QTail.putA, List.take_succ_cons, List.take_zero]
      go_wp2
      exact ⟨rfl, Below.refl _ _⟩
    refine ⟨?_, ?_⟩
    · intro vs w' hb hd
      have d0 : vs 32 = fl y := hd ⟨32, .data⟩ (by simp) rfl
      have d1 : vs 34 = .float .f64 m7 := hd ⟨34, .data⟩ (by simp) rfl
      clear hb hd
      simp only [QTail.putA, List.take_succ_cons, List.take_zero]
      go_wp2_with (refine (mulK_r _ _ _).mono ?_; rintro e u ⟨r, hr, rfl, hb1⟩; replace hr := Lib.hid hr)
      exact ⟨r, rfl, hr.out⟩
    refine ⟨?_, ?_⟩
    · intro vs w' hb hd
      obtain ⟨p0, d0, b0⟩ : ∃ p, vs 31 = fl p ∧ BR .mul x m6 p := hd ⟨31, .data⟩ (by simp) rfl
      obtain ⟨p1, d1, b1⟩ : ∃ p, vs 35 = fl p ∧ BR .mul y m7 p := hd ⟨35, .data⟩ (by simp) rfl
      replace b0 := Lib.hid b0
      replace b1 := Lib.hid b1
      clear hb hd
      simp only [QTail.putA, List.take_succ_cons, List.take_zero]
      go_wp2_with (refine (add_r _ _ _).mono ?_; rintro e u ⟨r, hr, rfl, hb1⟩; replace hr := Lib.hid hr)
      first | exact ⟨r, rfl, p0, p1, b0.out, b1.out, hr.out⟩ | exact ⟨r, rfl, p0, b0.out, p1, b1.out, hr.out⟩
    refine ⟨?_, ?_⟩
    · intro vs w' hb hd
      have c := (hb.cell (block_lt_of_cell q11)).trans q11
      clear hb hd
      simp only [QTail.putA, List.take_succ_cons, List.take_zero]
      go_wp2
      exact ⟨rfl, Below.refl _ _⟩
    refine ⟨?_, ?_⟩
    · intro vs w' hb hd
      clear hb hd
      simp only [QTail.putA, List.take_succ_cons, List.take_zero]
      go_wp2
      exact ⟨rfl, Below.refl _ _⟩
    refine ⟨?_, ?_⟩
    · intro vs w' hb hd
      have d0 : vs 38 = .pointer (some ⟨w.heap.size, 8, none⟩) := hd ⟨38, .data⟩ (by simp) rfl
      have c := (hb.cell (block_lt_of_cell q8)).trans q8
      clear hb hd
      simp only [QTail.putA, List.take_succ_cons, List.take_zero]
      go_wp2
      exact ⟨rfl, Below.refl _ _⟩
    refine ⟨?_, ?_⟩
    · intro vs w' hb hd
      have d0 : vs 37 = fl z := hd ⟨37, .data⟩ (by simp) rfl
      have d1 : vs 39 = .float .f64 m8 := hd ⟨39, .data⟩ (by simp) rfl
      clear hb hd
      simp only [QTail.putA, List.take_succ_cons, List.take_zero]
      go_wp2_with (refine (mulK_r _ _ _).mono ?_; rintro e u ⟨r, hr, rfl, hb1⟩; replace hr := Lib.hid hr)
      exact ⟨r, rfl, hr.out⟩
    refine ⟨?_, ?_⟩
    · intro vs w' hb hd
      obtain ⟨s, d0, p0, p1, b0, b1, b2⟩ : ∃ s, vs 36 = fl s ∧ ∃ p0 p1, BR .mul x m6 p0 ∧ BR .mul y m7 p1 ∧ BR .add p0 p1 s := hd ⟨36, .data⟩ (by simp) rfl
      obtain ⟨p2, d1, b3⟩ : ∃ p, vs 40 = fl p ∧ BR .mul z m8 p := hd ⟨40, .data⟩ (by simp) rfl
      replace b0 := Lib.hid b0
      replace b1 := Lib.hid b1
      replace b2 := Lib.hid b2
      replace b3 := Lib.hid b3
      clear hb hd
      simp only [QTail.putA, List.take_succ_cons, List.take_zero]
      go_wp2_with (refine (add_r _ _ _).mono ?_; rintro e u ⟨r, hr, rfl, hb1⟩; replace hr := Lib.hid hr)
      exact ⟨r, rfl, p0, p1, s, p2, b0.out, b1.out, b2.out, b3.out, hr.out⟩
    trivial
  · intro vs W2 hb hv
    obtain ⟨r0, e0, R0⟩ : ∃ r, vs 13 = fl r ∧ Od.RowR m0 m1 m2 x y z r := hv 13 (by omega)
    obtain ⟨r1, e1, R1⟩ : ∃ r, vs 27 = fl r ∧ Od.RowR m3 m4 m5 x y z r := hv 27 (by omega)
    obtain ⟨r2, e2, R2⟩ : ∃ r, vs 41 = fl r ∧ Od.RowR m6 m7 m8 x y z r := hv 41 (by omega)
    replace R0 := Lib.hid R0
    replace R1 := Lib.hid R1
    replace R2 := Lib.hid R2
    have y0 := (hb.cell (block_lt_of_cell q12)).trans q12
    have y1 := (hb.cell (block_lt_of_cell q13)).trans q13
    have y2 := (hb.cell (block_lt_of_cell q14)).trans q14
    have x0 := (hb.frozen (block_lt_of_cell q12)).trans z0
    have x1 := (hb.frozen (block_lt_of_cell q13)).trans z1
    have x2 := (hb.frozen (block_lt_of_cell q14)).trans z2
    have hT : Below w.heap.size w W2 := hB.trans (hb.mono hB.size)
    clear hv hb hB q0 q1 q2 q3 q4 q5 q6 q7 q8 q9 q10 q11 q12 q13 q14 z0 z1 z2
    simp only [QTail.putA, List.take_succ_cons, List.take_zero, List.drop_succ_cons, List.drop_zero]
    go_wp2
    refine bodyPost_ret (v := .tuple #[fl r0, fl r1, fl r2]) (by simp [results, Try.results22, go_sem, y0, y1, y2]) rfl ⟨r0, r1, r2, R0.out, R1.out, R2.out, rfl, ?_⟩
    repeat (first | exact hT | refine Below.setCell ?_ (by simp <;> omega) _)
end Go.Proofs.Ytanaamlkiackbaa

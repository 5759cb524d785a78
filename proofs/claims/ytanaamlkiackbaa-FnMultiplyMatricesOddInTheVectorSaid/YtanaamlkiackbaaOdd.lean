/- FnMultiplyMatricesOddInTheVector: the law's walk. -/
import Derived.Test.YtanaamlkiackbaaZ9
import Derived.Test.YtanaamlkiackbaaS10
import Derived.Deep.Cut
import Derived.Deep.DeepCutAuto
import Derived.LoopTactic
set_option linter.unusedSimpArgs false
set_option linter.unusedVariables false
namespace Go.Proofs.Ytanaamlkiackbaa
open Go.RowKit Go.Sort
open Flt Ieee
/-- nine floats in a block -/
def Nine (W : World) (b : Nat) (f : Nat → Nat) : Prop := ∀ i, i < 9 → W.cell? ⟨b, i, none⟩ = some (.float .f64 (f i)) ∧ W.frozen? ⟨b, i, none⟩ = false
theorem Nine.after {W W' : World} {b : Nat} {f : Nat → Nat} (h : Nine W b f) (hb : Below W.heap.size W W') : Nine W' b f := fun i hi => by
  obtain ⟨h1, h2⟩ := h i hi
  exact ⟨by rw [hb.cell (block_lt_of_cell h1)]; exact h1, by rw [hb.frozen (block_lt_of_cell h1)]; exact h2⟩
theorem Nine.set {W : World} {b : Nat} {f : Nat → Nat} (h : Nine W b f) (k v : Nat) : Nine (W.setCell ⟨b, k, none⟩ (.float .f64 v)) b (fun i => if i = k then v else f i) := fun i hi => by
  obtain ⟨h1, h2⟩ := h i hi
  by_cases e : i = k
  · subst e; simp [go_sem, h1, h2]
  · have : k ≠ i := fun h => e h.symm
    simp [go_sem, h1, h2, e, this]
theorem Nine.far {W : World} {b c : Nat} {f : Nat → Nat} (h : Nine W b f) (hne : c ≠ b) (k : Nat) (v : Value) : Nine (W.setCell ⟨c, k, none⟩ v) b f := fun i hi => by
  obtain ⟨h1, h2⟩ := h i hi
  simp [go_sem, h1, h2, hne]
theorem Nine.new (w : World) (A : Nat → Nat) (t : TypeId) : Nine (w.alloc (.cells #[.float .f64 (A 0), .float .f64 (A 1), .float .f64 (A 2), .float .f64 (A 3), .float .f64 (A 4), .float .f64 (A 5), .float .f64 (A 6), .float .f64 (A 7), .float .f64 (A 8)] t)) w.heap.size A := fun i hi => by
  match i, hi with
  | 0, _ => simp [go_sem]
  | 1, _ => simp [go_sem]
  | 2, _ => simp [go_sem]
  | 3, _ => simp [go_sem]
  | 4, _ => simp [go_sem]
  | 5, _ => simp [go_sem]
  | 6, _ => simp [go_sem]
  | 7, _ => simp [go_sem]
  | 8, _ => simp [go_sem]
theorem same_any {m0 m1 m2 x y z r n : Nat} (hr : Od.RowR m0 m1 m2 x y z r) (h : Od.NR r n) : eqB n (negB r) = true ∨ (isNan n ∧ isNan (negB r)) := by
  obtain ⟨p0, p1, s, p2, -, -, -, -, h5⟩ := hr
  rcases h5 with h5 | ⟨-, h5⟩
  · exact Od.same (bits_lt h5) h
  · exact .inr ⟨Od.nd_same_left h h5, nan_neg h5⟩
theorem nwp {c : Code} {P : Program} {Q : Exit → Act → World → Prop} {a : Act} {w0 : World} (h : ∀ W, W = w0 → c.wp P Q a W) : c.wp P Q a w0 := h _ rfl
set_option maxRecDepth 100000 in
set_option maxHeartbeats 4000000 in
theorem law4 (A : Nat → Nat) (x y z : Nat) (w : World) (wA : ∀ i, i < 9 → A i < 2 ^ 64) (wx : x < 2 ^ 64) (wy : y < 2 ^ 64) (wz : z < 2 ^ 64) : Calls Try.prog 4 #[.agg #[.float .f64 (A 0), .float .f64 (A 1), .float .f64 (A 2), .float .f64 (A 3), .float .f64 (A 4), .float .f64 (A 5), .float .f64 (A 6), .float .f64 (A 7), .float .f64 (A 8)], .float .f64 x, .float .f64 y, .float .f64 z] w fun e w' => e = .returned (.bool true) ∧ Below w.heap.size w w' := by
  have st := st_fl
  have kn := neg_fl
  have WA := Lib.hid wA; have WX := Lib.hid wx; have WY := Lib.hid wy; have WZ := Lib.hid wz
  clear wA wx wy wz
  go_enter Try.func4, Try.ntmps4
  go_upto_region 1 with (fail)
  refine nwp fun W hW => ?_
  have h9 : Hid (Nine W w.heap.size A) := Lib.hid (by rw [hW]; exact Nine.new w A _)
  have hB : Hid (Below w.heap.size w W) := Lib.hid (by rw [hW]; exact (Below.refl _ _).alloc (Nat.le_refl _) _)
  clear hW
  obtain ⟨q0, -⟩ := h9.out 0 (by omega)
  obtain ⟨q1, -⟩ := h9.out 1 (by omega)
  obtain ⟨q2, -⟩ := h9.out 2 (by omega)
  obtain ⟨q3, -⟩ := h9.out 3 (by omega)
  obtain ⟨q4, -⟩ := h9.out 4 (by omega)
  obtain ⟨q5, -⟩ := h9.out 5 (by omega)
  obtain ⟨q6, -⟩ := h9.out 6 (by omega)
  obtain ⟨q7, -⟩ := h9.out 7 (by omega)
  obtain ⟨q8, -⟩ := h9.out 8 (by omega)
  go_upto_region 2 with (go_at_call 9; (with_reducible refine (zz9_c (A 0) (A 1) (A 2) (A 3) (A 4) (A 5) (A 6) (A 7) (A 8) x y z _).mono ?_); rintro e W1 ⟨r0, r1, r2, h0, h1, h2, rfl, hb1⟩; replace h0 := Lib.hid h0; replace h1 := Lib.hid h1; replace h2 := Lib.hid h2; replace h9 := Lib.hid (h9.out.after hb1); replace hB := Lib.hid (hB.out.trans (hb1.mono hB.out.size)); clear hb1)
  clear q0 q1 q2 q3 q4 q5 q6 q7 q8
  obtain ⟨q0, -⟩ := h9.out 0 (by omega)
  obtain ⟨q1, -⟩ := h9.out 1 (by omega)
  obtain ⟨q2, -⟩ := h9.out 2 (by omega)
  obtain ⟨q3, -⟩ := h9.out 3 (by omega)
  obtain ⟨q4, -⟩ := h9.out 4 (by omega)
  obtain ⟨q5, -⟩ := h9.out 5 (by omega)
  obtain ⟨q6, -⟩ := h9.out 6 (by omega)
  obtain ⟨q7, -⟩ := h9.out 7 (by omega)
  obtain ⟨q8, -⟩ := h9.out 8 (by omega)
  go_upto_region 3 with (go_at_call 9; (with_reducible refine (zz9_c (A 0) (A 1) (A 2) (A 3) (A 4) (A 5) (A 6) (A 7) (A 8) (negB x) (negB y) (negB z) _).mono ?_); rintro e W2 ⟨n0, n1, n2, g0, g1, g2, rfl, hb1⟩; replace g0 := Lib.hid g0; replace g1 := Lib.hid g1; replace g2 := Lib.hid g2; replace h9 := Lib.hid (h9.out.after hb1); replace hB := Lib.hid (hB.out.trans (hb1.mono hB.out.size)); clear hb1)
  clear q0 q1 q2 q3 q4 q5 q6 q7 q8
  have NX := Od.nr_neg WX.out; have NY := Od.nr_neg WY.out; have NZ := Od.nr_neg WZ.out
  have S0 := Lib.hid (same_any h0.out (Od.row_vec NX NY NZ h0.out g0.out))
  have S1 := Lib.hid (same_any h1.out (Od.row_vec NX NY NZ h1.out g1.out))
  have S2 := Lib.hid (same_any h2.out (Od.row_vec NX NY NZ h2.out g2.out))
  clear NX NY NZ g0 g1 g2
  go_upto_region 6 with (first | (go_at_call 10; (with_reducible refine (same_c n0 (negB r0) _ S0.out).mono ?_); rintro e w' ⟨rfl, rfl⟩) | (go_at_call 10; (with_reducible refine (same_c n1 (negB r1) _ S1.out).mono ?_); rintro e w' ⟨rfl, rfl⟩) | (go_at_call 10; (with_reducible refine (same_c n2 (negB r2) _ S2.out).mono ?_); rintro e w' ⟨rfl, rfl⟩))
  clear S0 S1 S2
  refine nwp fun W3 hW => ?_
  have hb3 : Below W2.heap.size W2 W3 := by rw [hW]; exact (Below.refl _ _).alloc (Nat.le_refl _) _
  have n9 : Hid (Nine W3 W2.heap.size (fun _ => 0)) := Lib.hid (by rw [hW]; exact Nine.new W2 (fun _ => 0) _)
  have hne : W2.heap.size ≠ w.heap.size := by
    have := block_lt_of_cell (h9.out 0 (by omega)).1
    exact fun e => by rw [e] at this; simp at this
  have hge := hB.out.size
  replace h9 := Lib.hid (h9.out.after hb3)
  replace hB := Lib.hid (hB.out.trans (hb3.mono hB.out.size))
  clear hb3 hW
  generalize W2.heap.size = nb at *
  go_wp2_with fail
  go_loopw [16] (fun i wr => ∃ (k : Nat) (g : Nat → Nat), k ≤ 9 ∧ i = .int .i64 k ∧ Nine wr w.heap.size A ∧ Nine wr nb g ∧ (∀ j, j < k → g j = negB (A j)) ∧ Below w.heap.size w wr) (fun i _ => 9 - (intOf i).toNat)
  case atStart => exact ⟨0, _, by omega, rfl, h9.out, n9.out, fun j hj => by omega, hB.out⟩
  case round =>
    clear h9 n9 hB
    obtain ⟨k, g, hk, rfl, h9, n9, hg, hB⟩ := hrel
    replace hg := Lib.hid hg; replace hB := Lib.hid hB
    by_cases hlt : k < 9
    · obtain ⟨q, -⟩ := h9 k hlt
      obtain ⟨p, pf⟩ := n9 k hlt
      replace h9 := Lib.hid h9; replace n9 := Lib.hid n9
      have i0 : (0 : Int) ≤ k := by omega
      have i1 : (k : Int) < 9 := by omega
      go_wp2
      refine ⟨⟨k + 1, _, by omega, by go_num, h9.out.far hne _ _, n9.out.set k (negB (A k)), fun j hj => ?_, hB.out.setCell hge _⟩, by simp [intOf]; omega⟩
      by_cases e : j = k
      · rw [if_pos e, e]
      · rw [if_neg e]; exact hg.out j (by omega)
    · obtain rfl : k = 9 := by omega
      obtain ⟨q0, -⟩ := n9 0 (by omega)
      obtain ⟨q1, -⟩ := n9 1 (by omega)
      obtain ⟨q2, -⟩ := n9 2 (by omega)
      obtain ⟨q3, -⟩ := n9 3 (by omega)
      obtain ⟨q4, -⟩ := n9 4 (by omega)
      obtain ⟨q5, -⟩ := n9 5 (by omega)
      obtain ⟨q6, -⟩ := n9 6 (by omega)
      obtain ⟨q7, -⟩ := n9 7 (by omega)
      obtain ⟨q8, -⟩ := n9 8 (by omega)
      rw [hg.out 0 (by omega)] at q0
      rw [hg.out 1 (by omega)] at q1
      rw [hg.out 2 (by omega)] at q2
      rw [hg.out 3 (by omega)] at q3
      rw [hg.out 4 (by omega)] at q4
      rw [hg.out 5 (by omega)] at q5
      rw [hg.out 6 (by omega)] at q6
      rw [hg.out 7 (by omega)] at q7
      rw [hg.out 8 (by omega)] at q8
      have N : ∀ i, i < 9 → Od.NR (A i) (negB (A i)) := fun i hi => Od.nr_neg (WA.out i hi)
      replace N := Lib.hid N
      clear h9 n9 hlt hk
      go_upto_region 11 with (go_at_call 9; (with_reducible refine (zz9_c (negB (A 0)) (negB (A 1)) (negB (A 2)) (negB (A 3)) (negB (A 4)) (negB (A 5)) (negB (A 6)) (negB (A 7)) (negB (A 8)) x y z _).mono ?_); rintro e W5 ⟨m0, m1, m2, g0, g1, g2, rfl, hb1⟩; replace g0 := Lib.hid g0; replace g1 := Lib.hid g1; replace g2 := Lib.hid g2; replace hB := Lib.hid (hB.out.trans (hb1.mono hB.out.size)); clear hb1)
      clear q0 q1 q2 q3 q4 q5 q6 q7 q8
      have S0 := Lib.hid (same_any h0.out (Od.row_mat (N.out 0 (by omega)) (N.out 1 (by omega)) (N.out 2 (by omega)) h0.out g0.out))
      have S1 := Lib.hid (same_any h1.out (Od.row_mat (N.out 3 (by omega)) (N.out 4 (by omega)) (N.out 5 (by omega)) h1.out g1.out))
      have S2 := Lib.hid (same_any h2.out (Od.row_mat (N.out 6 (by omega)) (N.out 7 (by omega)) (N.out 8 (by omega)) h2.out g2.out))
      go_wp2_with (first | (go_at_call 10; (with_reducible refine (same_c m0 (negB r0) _ S0.out).mono ?_); rintro e w' ⟨rfl, rfl⟩) | (go_at_call 10; (with_reducible refine (same_c m1 (negB r1) _ S1.out).mono ?_); rintro e w' ⟨rfl, rfl⟩) | (go_at_call 10; (with_reducible refine (same_c m2 (negB r2) _ S2.out).mono ?_); rintro e w' ⟨rfl, rfl⟩))
      go_ret
      exact ⟨rfl, hB.out⟩
end Go.Proofs.Ytanaamlkiackbaa

/- zzExpand, zzMinimal, zzCheckList, zzCheckValue. -/
import Derived.Test.YthdogpahkglaoaaDoorBc4
import Derived.Laws.StructEq
import Derived.Laws.Tables
import Derived.Laws.Cover2
set_option linter.unusedVariables false
set_option linter.unusedSimpArgs false
namespace Go.Proofs.YthdogpahkglaoaaDoor
open Go.RowKit
abbrev q4 (a b c d : Int) : Value := .agg #[.int .u8 a, .int .u8 b, .int .u8 c, .int .u8 d]
def Q4 (w : World) (P : Nat) (a b c d : Int) : Prop := w.cell? ⟨P, 0, none⟩ = some (.int .u8 a) ∧ w.cell? ⟨P, 1, none⟩ = some (.int .u8 b) ∧ w.cell? ⟨P, 2, none⟩ = some (.int .u8 c) ∧ w.cell? ⟨P, 3, none⟩ = some (.int .u8 d)
theorem Q4.after {w w' : World} {P : Nat} {a b c d : Int} (h : Q4 w P a b c d) (hb : Below w.heap.size w w') : Q4 w' P a b c d := ⟨ac hb h.1, ac hb h.2.1, ac hb h.2.2.1, ac hb h.2.2.2⟩
def minN (a b c d : Int) : Nat := if b = a ∧ c = a ∧ d = a then 1 else if c = a ∧ d = b then 2 else if d = b then 3 else 4
set_option maxRecDepth 100000 in
set_option maxHeartbeats 4000000 in
theorem exp_1 (P c0 : Nat) (a b c d : Int) (w : World) (h : Q4 w P a b c d) : Calls Tryd.prog 28 #[.slice (some ⟨P, 0, none⟩) 1 c0] w (Gv (q4 a a a a) w) := by
  obtain ⟨h0, h1, h2, h3⟩ := h
  have hP := block_lt_of_cell h0
  have n1 : ¬ (P = w.heap.size) := fun e => by rw [e] at hP; exact absurd hP (by simp)
  have n2 : ¬ (P = w.heap.size + 1) := fun e => by rw [e] at hP; exact absurd hP (by simp)
  go_enter Tryd.func28, Tryd.ntmps28
  go_wp2
  exact bodyPost_ret (v := q4 a a a a) (by simp [results, Tryd.results28, go_sem]) rfl ⟨rfl, by repeat (first | exact ba _ _ | exact Below.refl _ _ | refine Below.alloc ?_ (by simp) _ | refine Below.setCell ?_ (by simp) _)⟩
set_option maxRecDepth 100000 in
set_option maxHeartbeats 4000000 in
theorem exp_2 (P c0 : Nat) (a b c d : Int) (w : World) (h : Q4 w P a b c d) : Calls Tryd.prog 28 #[.slice (some ⟨P, 0, none⟩) 2 c0] w (Gv (q4 a b a b) w) := by
  obtain ⟨h0, h1, h2, h3⟩ := h
  have hP := block_lt_of_cell h0
  have n1 : ¬ (P = w.heap.size) := fun e => by rw [e] at hP; exact absurd hP (by simp)
  have n2 : ¬ (P = w.heap.size + 1) := fun e => by rw [e] at hP; exact absurd hP (by simp)
  go_enter Tryd.func28, Tryd.ntmps28
  go_wp2
  exact bodyPost_ret (v := q4 a b a b) (by simp [results, Tryd.results28, go_sem]) rfl ⟨rfl, by repeat (first | exact ba _ _ | exact Below.refl _ _ | refine Below.alloc ?_ (by simp) _ | refine Below.setCell ?_ (by simp) _)⟩
set_option maxRecDepth 100000 in
set_option maxHeartbeats 4000000 in
theorem exp_3 (P c0 : Nat) (a b c d : Int) (w : World) (h : Q4 w P a b c d) : Calls Tryd.prog 28 #[.slice (some ⟨P, 0, none⟩) 3 c0] w (Gv (q4 a b c b) w) := by
  obtain ⟨h0, h1, h2, h3⟩ := h
  have hP := block_lt_of_cell h0
  have n1 : ¬ (P = w.heap.size) := fun e => by rw [e] at hP; exact absurd hP (by simp)
  have n2 : ¬ (P = w.heap.size + 1) := fun e => by rw [e] at hP; exact absurd hP (by simp)
  go_enter Tryd.func28, Tryd.ntmps28
  go_wp2
  exact bodyPost_ret (v := q4 a b c b) (by simp [results, Tryd.results28, go_sem]) rfl ⟨rfl, by repeat (first | exact ba _ _ | exact Below.refl _ _ | refine Below.alloc ?_ (by simp) _ | refine Below.setCell ?_ (by simp) _)⟩
set_option maxRecDepth 100000 in
set_option maxHeartbeats 4000000 in
theorem eq22 (a b c d a' b' c' d' : Int) (w : World) : (Op.equalIn 10000 22 (.agg #[.int .u8 a, .int .u8 b, .int .u8 c, .int .u8 d]) (.agg #[.int .u8 a', .int .u8 b', .int .u8 c', .int .u8 d'])).run Tryd.prog w = .ok (a == a' && b == b' && c == c' && d == d') w := by
  have u3 := Tryd.underlying5
  have a3 := Tryd.isAgg5
  have z3 := Tryd.sizeOf5
  rw [show (10000 : Nat) = 9999 + 1 from rfl, Op.equalIn]
  simp only [Sem.run_bind, run_underlying Tryd.underlying22, Result.andThen_ok]
  simp only [Std.Legacy.Range.forIn_eq_forIn_range', Std.Legacy.Range.size, Nat.sub_zero, Nat.add_sub_cancel, Nat.div_one, List.range'_succ, List.range'_zero, List.forIn_cons, List.forIn_nil]
  go_simp
  by_cases h1 : a = a' <;> by_cases h2 : b = b' <;> by_cases h3 : c = c' <;> by_cases h4 : d = d' <;> simp [h1, h2, h3, h4]
set_option maxRecDepth 100000 in
set_option maxHeartbeats 4000000 in
theorem min_c (a b c d : Int) (w : World) : Calls Tryd.prog 19 #[q4 a b c d] w (Gv (.int .i64 (minN a b c d)) w) := by
  go_enter Tryd.func19, Tryd.ntmps19
  go_upto_region 2 with fail
  refine wp_gen (fun W hW => ?_)
  have hb : Hid (Below w.heap.size w W) := Lib.hid (by rw [hW]; exact ba _ _)
  have hQ : Hid (Q4 W w.heap.size a b c d) := Lib.hid (by rw [hW]; exact ⟨by simp [go_sem], by simp [go_sem], by simp [go_sem], by simp [go_sem]⟩)
  clear hW
  generalize w.heap.size = P at hQ ⊢
  go_wp2
  go_loopw [3] (fun v wr => (∃ k : Nat, v = .int .i64 k ∧ (k = 1 ∨ (k = 2 ∧ ¬ (b = a ∧ c = a ∧ d = a)) ∨ (k = 3 ∧ ¬ (b = a ∧ c = a ∧ d = a) ∧ ¬ (c = a ∧ d = b)) ∨ (k = 4 ∧ ¬ (b = a ∧ c = a ∧ d = a) ∧ ¬ (c = a ∧ d = b) ∧ ¬ (d = b)))) ∧ Below W.heap.size W wr) (fun v _ => 4 - (intOf v).toNat)
  case atStart => exact ⟨⟨1, rfl, .inl rfl⟩, Below.refl _ _⟩
  case round =>
    obtain ⟨⟨k, rfl, hk⟩, hB⟩ := hrel
    have QQ := hQ.out.after hB
    have hB' := Lib.hid hB
    clear hB
    rcases hk with rfl | ⟨rfl, H1⟩ | ⟨rfl, H1, H2⟩ | ⟨rfl, H1, H2, H3⟩
    all_goals (try replace H1 := Lib.hid H1); (try replace H2 := Lib.hid H2); (try replace H3 := Lib.hid H3)
    · go_upto_region 4 with fail
      have y0 := fun d os => cell_regrown QQ.1 d os
      have y1 := fun d os => cell_regrown QQ.2.1 d os
      have y2 := fun d os => cell_regrown QQ.2.2.1 d os
      have y3 := fun d os => cell_regrown QQ.2.2.2 d os
      have C28 := Lib.hid (fun dd os => exp_1 P 4 a b c d (Sort.grow (redrawn wr dd) os) ⟨y0 dd os, y1 dd os, y2 dd os, y3 dd os⟩)
      refine drawn_tail 4 (by kernel_rfl) (by kernel_rfl) (by kernel_rfl) (fun Q hQ => ?_)
      simp only [List.take_succ_cons, List.take_zero, List.drop_succ_cons, List.drop_zero]
      repeat (quiet_step (exact Calls.regrown_of (C28.out _ _)))
      refine wpQuiet_nil ?_
      intro W3 hw
      have hb3 : Hid (Below W.heap.size W W3) := Lib.hid (by
        obtain ⟨⟨d, os⟩, rfl⟩ := hw
        exact hB'.out.trans ((below_regrown _ d os).mono hB'.out.size))
      clear hw C28 y0 y1 y2 y3 QQ
      by_cases hc : b = a ∧ c = a ∧ d = a
      · have eq : ∀ w, (Op.equalIn 10000 22 (q4 a a a a) (q4 a b c d)).run Tryd.prog w = .ok true w := fun w => by
          rw [eq22]; simp; omega
        have hN : Hid (minN a b c d = 1) := Lib.hid (by unfold minN; rw [if_pos hc])
        replace hc := Lib.hid hc
        go_wp2
        go_ret
        exact ⟨by rw [hN.out]; rfl, hb.out.trans (hb3.out.mono hb.out.size)⟩
      · have eq : ∀ w, (Op.equalIn 10000 22 (q4 a a a a) (q4 a b c d)).run Tryd.prog w = .ok false w := fun w => by
          rw [eq22]; simp; omega
        replace hc := Lib.hid hc
        go_wp2
        go_roundw
        case rel => exact ⟨⟨2, rfl, .inr (.inl ⟨rfl, hc.out⟩)⟩, hb3.out⟩
        case measure => simp [intOf]
    · go_upto_region 4 with fail
      have y0 := fun d os => cell_regrown QQ.1 d os
      have y1 := fun d os => cell_regrown QQ.2.1 d os
      have y2 := fun d os => cell_regrown QQ.2.2.1 d os
      have y3 := fun d os => cell_regrown QQ.2.2.2 d os
      have C28 := Lib.hid (fun dd os => exp_2 P 4 a b c d (Sort.grow (redrawn wr dd) os) ⟨y0 dd os, y1 dd os, y2 dd os, y3 dd os⟩)
      refine drawn_tail 4 (by kernel_rfl) (by kernel_rfl) (by kernel_rfl) (fun Q hQ => ?_)
      simp only [List.take_succ_cons, List.take_zero, List.drop_succ_cons, List.drop_zero]
      repeat (quiet_step (exact Calls.regrown_of (C28.out _ _)))
      refine wpQuiet_nil ?_
      intro W3 hw
      have hb3 : Hid (Below W.heap.size W W3) := Lib.hid (by
        obtain ⟨⟨d, os⟩, rfl⟩ := hw
        exact hB'.out.trans ((below_regrown _ d os).mono hB'.out.size))
      clear hw C28 y0 y1 y2 y3 QQ
      by_cases hc : c = a ∧ d = b
      · have eq : ∀ w, (Op.equalIn 10000 22 (q4 a b a b) (q4 a b c d)).run Tryd.prog w = .ok true w := fun w => by
          rw [eq22]; simp; omega
        have hN : Hid (minN a b c d = 2) := Lib.hid (by unfold minN; rw [if_neg H1.out]; rw [if_pos hc])
        replace hc := Lib.hid hc
        go_wp2
        go_ret
        exact ⟨by rw [hN.out]; rfl, hb.out.trans (hb3.out.mono hb.out.size)⟩
      · have eq : ∀ w, (Op.equalIn 10000 22 (q4 a b a b) (q4 a b c d)).run Tryd.prog w = .ok false w := fun w => by
          rw [eq22]; simp; omega
        replace hc := Lib.hid hc
        go_wp2
        go_roundw
        case rel => exact ⟨⟨3, rfl, .inr (.inr (.inl ⟨rfl, H1.out, hc.out⟩))⟩, hb3.out⟩
        case measure => simp [intOf]
    · go_upto_region 4 with fail
      have y0 := fun d os => cell_regrown QQ.1 d os
      have y1 := fun d os => cell_regrown QQ.2.1 d os
      have y2 := fun d os => cell_regrown QQ.2.2.1 d os
      have y3 := fun d os => cell_regrown QQ.2.2.2 d os
      have C28 := Lib.hid (fun dd os => exp_3 P 4 a b c d (Sort.grow (redrawn wr dd) os) ⟨y0 dd os, y1 dd os, y2 dd os, y3 dd os⟩)
      refine drawn_tail 4 (by kernel_rfl) (by kernel_rfl) (by kernel_rfl) (fun Q hQ => ?_)
      simp only [List.take_succ_cons, List.take_zero, List.drop_succ_cons, List.drop_zero]
      repeat (quiet_step (exact Calls.regrown_of (C28.out _ _)))
      refine wpQuiet_nil ?_
      intro W3 hw
      have hb3 : Hid (Below W.heap.size W W3) := Lib.hid (by
        obtain ⟨⟨d, os⟩, rfl⟩ := hw
        exact hB'.out.trans ((below_regrown _ d os).mono hB'.out.size))
      clear hw C28 y0 y1 y2 y3 QQ
      by_cases hc : d = b
      · have eq : ∀ w, (Op.equalIn 10000 22 (q4 a b c b) (q4 a b c d)).run Tryd.prog w = .ok true w := fun w => by
          rw [eq22]; simp; omega
        have hN : Hid (minN a b c d = 3) := Lib.hid (by unfold minN; rw [if_neg H1.out]; rw [if_neg H2.out]; rw [if_pos hc])
        replace hc := Lib.hid hc
        go_wp2
        go_ret
        exact ⟨by rw [hN.out]; rfl, hb.out.trans (hb3.out.mono hb.out.size)⟩
      · have eq : ∀ w, (Op.equalIn 10000 22 (q4 a b c b) (q4 a b c d)).run Tryd.prog w = .ok false w := fun w => by
          rw [eq22]; simp; omega
        replace hc := Lib.hid hc
        go_wp2
        go_roundw
        case rel => exact ⟨⟨4, rfl, .inr (.inr (.inr ⟨rfl, H1.out, H2.out, hc.out⟩))⟩, hb3.out⟩
        case measure => simp [intOf]
    · have hN : Hid (minN a b c d = 4) := Lib.hid (by unfold minN; rw [if_neg H1.out, if_neg H2.out, if_neg H3.out])
      go_wp2
      go_ret
      exact ⟨by rw [hN.out]; rfl, hb.out.trans (hB'.out.mono hb.out.size)⟩
end Go.Proofs.YthdogpahkglaoaaDoor

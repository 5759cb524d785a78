/- FnDeadRuleManglerFreshForgets: equality of subclass selectors. -/
import Derived.Test.YtidmdcadejfjhaaDrd
set_option linter.unusedVariables false
set_option linter.unusedSimpArgs false
namespace Go.Proofs.Ytidmdcadejfjhaa
open Go.RowKit
set_option maxRecDepth 100000
set_option maxHeartbeats 4000000
def RetV (v : Value) (w : World) (e : Ending) (w' : World) : Prop := e = .returned v ∧ Below w.heap.size w w'
section
variable {P : Program} {ops : Array Oper} {C : World → Prop}
theorem quiet_no {Q : Act → Prop} {a : Act} {o : Oper} {rest : List Oper} (hw : Region.wanted o (yielded ops a.tmps) = false) (h : wpQuiet P ops C Q rest (a.put o.dst undef)) : wpQuiet P ops C Q (o :: rest) a := by
  unfold wpQuiet
  rw [if_neg (by rw [hw]; decide)]
  exact h
theorem quiet_val {Q : Act → Prop} {a : Act} {o : Oper} {rest : List Oper} (v : Value) (hw : Region.wanted o (yielded ops a.tmps) = true) (hr : ∀ w, C w → (execOp a.eval o).run P w = .ok (.value v) w) (h : wpQuiet P ops C Q rest (a.put o.dst v)) : wpQuiet P ops C Q (o :: rest) a := by
  unfold wpQuiet
  rw [if_pos hw]
  exact ⟨v, fun w hC => by unfold Oper.quietAt; rw [hr w hC]; exact ⟨rfl, rfl⟩, h⟩
theorem move_run {w : World} {a : Act} {o : Oper} {x : Operand} {v : Value} (ho : o.op = .move x) (hx : a.eval x = v) : (execOp a.eval o).run P w = .ok (.value v) w := by
  unfold execOp
  simp only [ho, hx, Sem.run_bind, Sem.run_pure, Result.andThen_ok]
theorem pick_run {w : World} {a : Act} {o : Oper} {x y z : Operand} {v : Value} (ho : o.op = .pick x y z) (hx : a.eval x = .bool false) (hz : a.eval z = v) : (execOp a.eval o).run P w = .ok (.value v) w := by
  unfold execOp
  simp [ho, hx, hz, asBool]
end
theorem tok65_c (q : Value) (w : World) : Calls Try.prog 65 #[.slice none 0 0, .slice none 0 0, q] w (RetV (.bool true) w) := by
  go_enter Try.func65, Try.ntmps65
  go_wp2
  go_loopw [16] (fun i wr => i = .int .i64 0 ∧ wr = w) (fun _ _ => 0)
  case atStart => exact ⟨rfl, rfl⟩
  case round =>
    obtain ⟨rfl, rfl⟩ := hrel
    go_wp2
    go_ret
    exact ⟨rfl, Below.refl _ _⟩
theorem rules48_c (q : Value) (w : World) : Calls Try.prog 48 #[.slice none 0 0, .slice none 0 0, q] w (RetV (.bool true) w) := by
  go_enter Try.func48, Try.ntmps48
  go_wp2
  go_loopw [16] (fun i wr => i = .int .i64 0 ∧ wr = w) (fun _ _ => 0)
  case atStart => exact ⟨rfl, rfl⟩
  case round =>
    obtain ⟨rfl, rfl⟩ := hrel
    go_wp2
    go_ret
    exact ⟨rfl, Below.refl _ _⟩
theorem ta106_97 (p : Value) (W : World) : (Instr.typeAssert (.iface 97 p) 91 106 true).run Try.prog W = .ok (.tuple #[.pointer none, .bool false]) W := by kernel_rfl
theorem ta106_106 (p : Value) (W : World) : (Instr.typeAssert (.iface 106 p) 91 106 true).run Try.prog W = .ok (.tuple #[p, .bool true]) W := by kernel_rfl
theorem ta97_97 (p : Value) (W : World) : (Instr.typeAssert (.iface 97 p) 91 97 true).run Try.prog W = .ok (.tuple #[p, .bool true]) W := by kernel_rfl
theorem ta97_106 (p : Value) (W : World) : (Instr.typeAssert (.iface 106 p) 91 97 true).run Try.prog W = .ok (.tuple #[.pointer none, .bool false]) W := by kernel_rfl
theorem eq63_same (O O' : Nat → Prop) (p p' q : Value) (w : World) (h : P0 O w 106 p) (h' : P0 O' w 106 p') : Calls Try.prog 63 #[p, .iface 106 p', q] w (RetV (.bool true) w) := by
  obtain ⟨-, B, rfl, -, hs⟩ := h
  obtain ⟨-, B', rfl, -, hs'⟩ := h'
  have a0 := hs 0 _ rfl; have a1 := hs 1 _ rfl; have a2 := hs 2 _ rfl
  have b0 := hs' 0 _ rfl; have b1 := hs' 1 _ rfl; have b2 := hs' 2 _ rfl
  simp only [Nat.zero_add] at a0 a1 a2 b0 b1 b2
  clear hs hs'
  have C65 := Lib.hid (fun w => tok65_c q w)
  have TA := ta106_106
  have x0 := fun d os => cell_regrown a0 d os
  have x1 := fun d os => cell_regrown a1 d os
  have x2 := fun d os => cell_regrown a2 d os
  have y0 := fun d os => cell_regrown b0 d os
  have y1 := fun d os => cell_regrown b1 d os
  have y2 := fun d os => cell_regrown b2 d os
  go_enter Try.func63, Try.ntmps63
  go_upto_region 2 with fail
  refine drawn_tail 35 (by kernel_rfl) (by kernel_rfl) (by kernel_rfl) (fun Q hQ => ?_)
  simp only [List.take_succ_cons, List.take_zero, List.drop_succ_cons, List.drop_zero]
  repeat (quiet_step (exact Calls.regrown_of (C65.out _)))
  refine wpQuiet_nil ?_
  intro W9 hw
  have b9 : Hid (Below w.heap.size w W9) := Lib.hid (by
    obtain ⟨⟨d, os⟩, rfl⟩ := hw
    exact below_regrown _ d os)
  clear hw x0 x1 x2 y0 y1 y2
  go_wp2
  go_ret
  exact ⟨by simp, b9.out⟩
theorem eq63_other (p p' q : Value) (w : World) : Calls Try.prog 63 #[p, .iface 97 p', q] w (RetV (.bool false) w) := by
  have TA := ta106_97
  go_enter Try.func63, Try.ntmps63
  go_upto_region 2 with fail
  refine drawn_tail 35 (by kernel_rfl) (by kernel_rfl) (by kernel_rfl) (fun Q hQ => ?_)
  simp only [List.take_succ_cons, List.take_zero, List.drop_succ_cons, List.drop_zero]
  quiet_step (fail)
  with_reducible refine quiet_val (.bool false) (by simp [Region.wanted, yielded]) (fun w _ => move_run rfl (by with_unfolding_all rfl)) ?_
  simp only [Act.put, List.setIfInBounds_toArray, List.set_cons_succ, List.set_cons_zero]
  iterate 9 (with_reducible refine quiet_no (by simp [Region.wanted, yielded]) ?_; simp only [Act.put, List.setIfInBounds_toArray, List.set_cons_succ, List.set_cons_zero])
  with_reducible refine quiet_val (.bool false) (by simp [Region.wanted, yielded]) (fun w _ => pick_run rfl (by with_unfolding_all rfl) (by with_unfolding_all rfl)) ?_
  simp only [Act.put, List.setIfInBounds_toArray, List.set_cons_succ, List.set_cons_zero]
  with_reducible refine quiet_val (.bool false) (by simp [Region.wanted, yielded]) (fun w _ => move_run rfl (by with_unfolding_all rfl)) ?_
  simp only [Act.put, List.setIfInBounds_toArray, List.set_cons_succ, List.set_cons_zero]
  iterate 10 (with_reducible refine quiet_no (by simp [Region.wanted, yielded]) ?_; simp only [Act.put, List.setIfInBounds_toArray, List.set_cons_succ, List.set_cons_zero])
  with_reducible refine quiet_val (.bool false) (by simp [Region.wanted, yielded]) (fun w _ => pick_run rfl (by with_unfolding_all rfl) (by with_unfolding_all rfl)) ?_
  simp only [Act.put, List.setIfInBounds_toArray, List.set_cons_succ, List.set_cons_zero]
  with_reducible refine quiet_val (.bool false) (by simp [Region.wanted, yielded]) (fun w _ => move_run rfl (by with_unfolding_all rfl)) ?_
  simp only [Act.put, List.setIfInBounds_toArray, List.set_cons_succ, List.set_cons_zero]
  iterate 9 (with_reducible refine quiet_no (by simp [Region.wanted, yielded]) ?_; simp only [Act.put, List.setIfInBounds_toArray, List.set_cons_succ, List.set_cons_zero])
  with_reducible refine quiet_val (.bool false) (by simp [Region.wanted, yielded]) (fun w _ => pick_run rfl (by with_unfolding_all rfl) (by with_unfolding_all rfl)) ?_
  simp only [Act.put, List.setIfInBounds_toArray, List.set_cons_succ, List.set_cons_zero]
  refine wpQuiet_nil ?_
  intro W9 hw
  have b9 : Hid (Below w.heap.size w W9) := Lib.hid (by
    obtain ⟨⟨d, os⟩, rfl⟩ := hw
    exact below_regrown _ d os)
  clear hw
  go_wp2
  go_ret
  exact ⟨by simp, b9.out⟩
end Go.Proofs.Ytidmdcadejfjhaa

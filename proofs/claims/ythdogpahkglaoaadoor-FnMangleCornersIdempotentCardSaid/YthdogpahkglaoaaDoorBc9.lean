/- zzDeclIs. -/
import Derived.Test.YthdogpahkglaoaaDoorBc8
set_option linter.unusedVariables false
set_option linter.unusedSimpArgs false
namespace Go.Proofs.YthdogpahkglaoaaDoor
open Go.RowKit
/-- a declaration's cells -/
abbrev dcL (kt : ByteArray) (v : Value) (lo len key : Int) (imp : Bool) : List Value := [.string kt, v, .int .i32 lo, .int .i32 len, .int .u16 key, .bool imp]
abbrev ktB : ByteArray := ⟨#[98, 111, 114, 100, 101, 114, 45, 114, 97, 100, 105, 117, 115]⟩
set_option maxRecDepth 100000 in
set_option maxHeartbeats 4000000 in
theorem eq26 (a : Int) (w : World) : (Op.equalIn 9999 26 (.agg #[.int .i32 a]) (.agg #[.int .i32 a])).run Tryd.prog w = .ok true w := by
  have u3 := Tryd.underlying21
  have a3 := Tryd.isAgg21
  have z3 := Tryd.sizeOf21
  have hS2 : Tryd.prog.underlying 26 = some (.struct (Tryd.prog.fieldsOf 26)) := by kernel_rfl
  have p2 : Tryd.prog.stoodInHeld 26 = false := by kernel_rfl
  rw [show (9999 : Nat) = 9998 + 1 from rfl, run_equalIn_struct w 9998 26 _ _ hS2 p2]
  simp only [Program.fieldsOf, Tryd.underlying26]
  simp [Op.eqFields]
  go_simp
theorem eq35 (a b : Int) (w : World) : (Op.equalIn 10000 35 (.agg #[.int .i32 a, .int .i32 b]) (.agg #[.int .i32 a, .int .i32 b])).run Tryd.prog w = .ok true w := by
  have u3 := Tryd.underlying21
  have a3 := Tryd.isAgg21
  have z3 := Tryd.sizeOf21
  have a26 := Tryd.isAgg26
  have z26 := Tryd.sizeOf26
  have e26 := eq26 a
  have hS : Tryd.prog.underlying 35 = some (.struct (Tryd.prog.fieldsOf 35)) := by kernel_rfl
  have p1 : Tryd.prog.stoodInHeld 35 = false := by kernel_rfl
  rw [show (10000 : Nat) = 9999 + 1 from rfl, run_equalIn_struct w 9999 35 _ _ hS p1]
  simp only [Program.fieldsOf, Tryd.underlying35]
  simp [Op.eqFields]
  go_simp
set_option maxRecDepth 100000 in
set_option maxHeartbeats 4000000 in
theorem declIs_c (D : Nat) (v : Value) (lo len : Int) (imp : Bool) (w : World) (h : Seg w D 0 (dcL ktB v lo len 66 imp)) : Calls Tryd.prog 12 #[.pointer (some ⟨D, 0, none⟩), .agg #[.int .i32 lo, .int .i32 len], .bool imp] w (Gv (.bool true) w) := by
  have hD := block_lt_of_cell (h 0 _ rfl)
  have H := Lib.hid h
  clear h
  go_enter Tryd.func12, Tryd.ntmps12
  go_upto_region 1 with fail
  refine wp_gen (fun W hW => ?_)
  have hb : Hid (Below w.heap.size w W) := Lib.hid (by rw [hW]; exact ba _ _)
  have x0 : W.cell? ⟨w.heap.size, 0, none⟩ = some (.int .i32 lo) := by rw [hW]; simp [go_sem]
  have x1 : W.cell? ⟨w.heap.size, 1, none⟩ = some (.int .i32 len) := by rw [hW]; simp [go_sem]
  clear hW
  generalize hP : w.heap.size = P at x0 x1 ⊢
  replace hP := Lib.hid hP
  have d := fun j v h => H.out.after hb.out j v h
  have d0 : W.cell? ⟨D, 0, none⟩ = some (.string ktB) := d 0 _ rfl
  have d2 : W.cell? ⟨D, 2, none⟩ = some (.int .i32 lo) := d 2 _ rfl
  have d3 : W.cell? ⟨D, 3, none⟩ = some (.int .i32 len) := d 3 _ rfl
  have d4 : W.cell? ⟨D, 4, none⟩ = some (.int .u16 66) := d 4 _ rfl
  have d5 : W.cell? ⟨D, 5, none⟩ = some (.bool imp) := d 5 _ rfl
  have y0 := fun d os => cell_regrown d0 d os
  have y2 := fun d os => cell_regrown d2 d os
  have y3 := fun d os => cell_regrown d3 d os
  have y4 := fun d os => cell_regrown d4 d os
  have y5 := fun d os => cell_regrown d5 d os
  have z0 := fun d os => cell_regrown x0 d os
  have z1 := fun d os => cell_regrown x1 d os
  have e35 := eq35 lo len
  clear d d0 d2 d3 d4 d5 x0 x1
  refine drawn_tail 27 (by kernel_rfl) (by kernel_rfl) (by kernel_rfl) (fun Q hQ => ?_)
  simp only [List.take_succ_cons, List.take_zero, List.drop_succ_cons, List.drop_zero]
  repeat (quiet_step (fail))
  refine wpQuiet_nil ?_
  intro W3 hw
  have hb3 : Hid (Below w.heap.size w W3) := Lib.hid (by
    obtain ⟨⟨d, os⟩, rfl⟩ := hw
    exact hb.out.trans ((below_regrown _ d os).mono hb.out.size))
  clear hw y0 y2 y3 y4 y5 z0 z1
  go_wp2
  go_ret
  exact ⟨rfl, hb3.out⟩
end Go.Proofs.YthdogpahkglaoaaDoor

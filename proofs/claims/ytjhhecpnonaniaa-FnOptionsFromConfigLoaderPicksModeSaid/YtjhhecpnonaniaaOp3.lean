/- The options that are read off a configuration. -/
import Derived.Test.YtjhhecpnonaniaaOp2
set_option linter.unusedVariables false
set_option linter.unusedSimpArgs false
namespace Go.Proofs.Ytjhhecpnonaniaa
open Go.RowKit
def md (l : Int) : Int := if l = 9 then 1 else if l = 14 then 2 else 0
abbrev optV (m : Option Nat) (b1 b2 b3 : Bool) (ft : Int) (s : ByteArray) (k : Int) : Value := .agg #[.map m, .string s, .int .u16 ft, .bool b1, .bool b2, .bool b3, .int .u8 k]
/-- options lie at T -/
structure OAt (w : World) (T : Nat) (m : Option Nat) (b1 b2 b3 : Bool) (ft : Int) (s : ByteArray) (k : Int) : Prop where
  c0 : w.cell? ⟨T, 0, none⟩ = some (.map m)
  c1 : w.cell? ⟨T, 1, none⟩ = some (.string s)
  c2 : w.cell? ⟨T, 2, none⟩ = some (.int .u16 ft)
  c3 : w.cell? ⟨T, 3, none⟩ = some (.bool b1)
  c4 : w.cell? ⟨T, 4, none⟩ = some (.bool b2)
  c5 : w.cell? ⟨T, 5, none⟩ = some (.bool b3)
  c6 : w.cell? ⟨T, 6, none⟩ = some (.int .u8 k)
theorem OAt.after {w w' : World} {T : Nat} {m : Option Nat} {b1 b2 b3 : Bool} {ft : Int} {s : ByteArray} {k : Int} (h : OAt w T m b1 b2 b3 ft s k) (hb : Below w.heap.size w w') : OAt w' T m b1 b2 b3 ft s k :=
  ⟨ac hb h.c0, ac hb h.c1, ac hb h.c2, ac hb h.c3, ac hb h.c4, ac hb h.c5, ac hb h.c6⟩
theorem OAt.lt {w : World} {T : Nat} {m : Option Nat} {b1 b2 b3 : Bool} {ft : Int} {s : ByteArray} {k : Int} (h : OAt w T m b1 b2 b3 ft s k) : T < w.heap.size := block_lt_of_cell h.c0
theorem OAt.made {w : World} {T : Nat} (m : Option Nat) (b1 b2 b3 : Bool) (ft : Int) (s : ByteArray) (k : Int) {v0 v1 v2 v3 v4 v5 v6 : Value} (r0 : w.cell? ⟨T, 0, none⟩ = some v0) (r1 : w.cell? ⟨T, 1, none⟩ = some v1) (r2 : w.cell? ⟨T, 2, none⟩ = some v2) (r3 : w.cell? ⟨T, 3, none⟩ = some v3) (r4 : w.cell? ⟨T, 4, none⟩ = some v4) (r5 : w.cell? ⟨T, 5, none⟩ = some v5) (r6 : w.cell? ⟨T, 6, none⟩ = some v6) :
    OAt (((((((w.setCell ⟨T, 0, none⟩ (.map m)).setCell ⟨T, 1, none⟩ (.string s)).setCell ⟨T, 2, none⟩ (.int .u16 ft)).setCell ⟨T, 3, none⟩ (.bool b1)).setCell ⟨T, 4, none⟩ (.bool b2)).setCell ⟨T, 5, none⟩ (.bool b3)).setCell ⟨T, 6, none⟩ (.int .u8 k)) T m b1 b2 b3 ft s k := by
  have ne : ∀ {i j : Nat}, i ≠ j → (⟨T, i, none⟩ : Addr) ≠ ⟨T, j, none⟩ := fun h e => h (by injection e)
  exact ⟨by (repeat rw [co (ne (by omega))]); exact cs (u := v0) (by (repeat rw [co (ne (by omega))]); exact r0), by (repeat rw [co (ne (by omega))]); exact cs (u := v1) (by (repeat rw [co (ne (by omega))]); exact r1), by (repeat rw [co (ne (by omega))]); exact cs (u := v2) (by (repeat rw [co (ne (by omega))]); exact r2), by (repeat rw [co (ne (by omega))]); exact cs (u := v3) (by (repeat rw [co (ne (by omega))]); exact r3), by (repeat rw [co (ne (by omega))]); exact cs (u := v4) (by (repeat rw [co (ne (by omega))]); exact r4), by (repeat rw [co (ne (by omega))]); exact cs (u := v5) (by (repeat rw [co (ne (by omega))]); exact r5), by (repeat rw [co (ne (by omega))]); exact cs (u := v6) (by (repeat rw [co (ne (by omega))]); exact r6)⟩
def OptB (m : Option Nat) (b1 b2 b3 : Bool) (ft : Int) (s : ByteArray) (k : Int) (w : World) (e : Ending) (w' : World) : Prop := e = .returned (optV m b1 b2 b3 ft s k) ∧ Below w.heap.size w w'
set_option maxRecDepth 100000 in
set_option maxHeartbeats 2000000 in
theorem opt6_9 (b : Nat) (m : Option Nat) (b1 b2 b3 : Bool) (ft : Int) (s : ByteArray) (w : World) (h : Cfg w b m b1 b2 b3 ft s) :
    Calls Try.prog 6 #[.int .u8 9, .pointer (some ⟨b, 0, none⟩)] w (OptB m b1 b2 b3 ft s 1 w) := by
  have a1 := al h.c7; have a2 := al h.c41; have a3 := al h.c43; have a4 := al h.c51; have a5 := al h.c52; have a6 := al h.c53
  clear h
  go_enter Try.func6, Try.ntmps6
  go_wp2
  have g1 := fun d os => cell_regrown (a1 (.cells #[.map none, .string ⟨#[]⟩, .int .u16 0, .bool false, .bool false, .bool false, .int .u8 0] 34)) d os
  have g2 := fun d os => cell_regrown (a2 (.cells #[.map none, .string ⟨#[]⟩, .int .u16 0, .bool false, .bool false, .bool false, .int .u8 0] 34)) d os
  have g3 := fun d os => cell_regrown (a3 (.cells #[.map none, .string ⟨#[]⟩, .int .u16 0, .bool false, .bool false, .bool false, .int .u8 0] 34)) d os
  have g4 := fun d os => cell_regrown (a4 (.cells #[.map none, .string ⟨#[]⟩, .int .u16 0, .bool false, .bool false, .bool false, .int .u8 0] 34)) d os
  have g5 := fun d os => cell_regrown (a5 (.cells #[.map none, .string ⟨#[]⟩, .int .u16 0, .bool false, .bool false, .bool false, .int .u8 0] 34)) d os
  have g6 := fun d os => cell_regrown (a6 (.cells #[.map none, .string ⟨#[]⟩, .int .u16 0, .bool false, .bool false, .bool false, .int .u8 0] 34)) d os
  refine drawn_tail 27 (by kernel_rfl) (by kernel_rfl) (by kernel_rfl) (fun Q hQ => ?_)
  simp only [List.take_succ_cons, List.take_zero, List.drop_succ_cons, List.drop_zero]
  repeat (quiet_step (fail))
  refine wpQuiet_nil ?_
  clear g1 g2 g3 g4 g5 g6 a1 a2 a3 a4 a5 a6
  intro W2 hw
  have hW : Below (w.alloc (.cells #[.map none, .string ⟨#[]⟩, .int .u16 0, .bool false, .bool false, .bool false, .int .u8 0] 34)).heap.size (w.alloc (.cells #[.map none, .string ⟨#[]⟩, .int .u16 0, .bool false, .bool false, .bool false, .int .u8 0] 34)) W2 := by
    obtain ⟨⟨d, os⟩, rfl⟩ := hw
    exact below_regrown _ d os
  clear hw
  have z0 := ac hW (a := ⟨w.heap.size, 0, none⟩) (v := .map none) (by simp [go_sem])
  have z1 := ac hW (a := ⟨w.heap.size, 1, none⟩) (v := .string ⟨#[]⟩) (by simp [go_sem])
  have z2 := ac hW (a := ⟨w.heap.size, 2, none⟩) (v := .int .u16 0) (by simp [go_sem])
  have z3 := ac hW (a := ⟨w.heap.size, 3, none⟩) (v := .bool false) (by simp [go_sem])
  have z4 := ac hW (a := ⟨w.heap.size, 4, none⟩) (v := .bool false) (by simp [go_sem])
  have z5 := ac hW (a := ⟨w.heap.size, 5, none⟩) (v := .bool false) (by simp [go_sem])
  have z6 := ac hW (a := ⟨w.heap.size, 6, none⟩) (v := .int .u8 0) (by simp [go_sem])
  have f0 := af hW (a := ⟨w.heap.size, 0, none⟩) (v := .map none) (by simp [go_sem]) (by simp [go_sem])
  have f1 := af hW (a := ⟨w.heap.size, 1, none⟩) (v := .string ⟨#[]⟩) (by simp [go_sem]) (by simp [go_sem])
  have f2 := af hW (a := ⟨w.heap.size, 2, none⟩) (v := .int .u16 0) (by simp [go_sem]) (by simp [go_sem])
  have f3 := af hW (a := ⟨w.heap.size, 3, none⟩) (v := .bool false) (by simp [go_sem]) (by simp [go_sem])
  have f4 := af hW (a := ⟨w.heap.size, 4, none⟩) (v := .bool false) (by simp [go_sem]) (by simp [go_sem])
  have f5 := af hW (a := ⟨w.heap.size, 5, none⟩) (v := .bool false) (by simp [go_sem]) (by simp [go_sem])
  have f6 := af hW (a := ⟨w.heap.size, 6, none⟩) (v := .int .u8 0) (by simp [go_sem]) (by simp [go_sem])
  have hB : Below w.heap.size w W2 := (ba w _).trans (hW.mono (by simp))
  clear hW
  go_wp2
  have Y := OAt.made (w := W2) (T := w.heap.size) m b1 b2 b3 ft s 1 z0 z1 z2 z3 z4 z5 z6
  have hB9 : Below w.heap.size w (((((((W2.setCell ⟨w.heap.size, 0, none⟩ (.map m)).setCell ⟨w.heap.size, 1, none⟩ (.string s)).setCell ⟨w.heap.size, 2, none⟩ (.int .u16 ft)).setCell ⟨w.heap.size, 3, none⟩ (.bool b1)).setCell ⟨w.heap.size, 4, none⟩ (.bool b2)).setCell ⟨w.heap.size, 5, none⟩ (.bool b3)).setCell ⟨w.heap.size, 6, none⟩ (.int .u8 1)) := by
    exact ((((((hB.setCell (Nat.le_refl _) _).setCell (Nat.le_refl _) _).setCell (Nat.le_refl _) _).setCell (Nat.le_refl _) _).setCell (Nat.le_refl _) _).setCell (Nat.le_refl _) _).setCell (Nat.le_refl _) _
  clear z0 z1 z2 z3 z4 z5 z6 f0 f1 f2 f3 f4 f5 f6 hB
  generalize (((((((W2.setCell ⟨w.heap.size, 0, none⟩ (.map m)).setCell ⟨w.heap.size, 1, none⟩ (.string s)).setCell ⟨w.heap.size, 2, none⟩ (.int .u16 ft)).setCell ⟨w.heap.size, 3, none⟩ (.bool b1)).setCell ⟨w.heap.size, 4, none⟩ (.bool b2)).setCell ⟨w.heap.size, 5, none⟩ (.bool b3)).setCell ⟨w.heap.size, 6, none⟩ (.int .u8 1)) = W9 at Y hB9 ⊢
  refine bodyPost_ret (v := optV m b1 b2 b3 ft s 1) (by simp [results, Try.results6, go_sem, Y.c0, Y.c1, Y.c2, Y.c3, Y.c4, Y.c5, Y.c6]) rfl ⟨rfl, hB9⟩
set_option maxRecDepth 100000 in
set_option maxHeartbeats 2000000 in
theorem opt6_14 (b : Nat) (m : Option Nat) (b1 b2 b3 : Bool) (ft : Int) (s : ByteArray) (w : World) (h : Cfg w b m b1 b2 b3 ft s) :
    Calls Try.prog 6 #[.int .u8 14, .pointer (some ⟨b, 0, none⟩)] w (OptB m b1 b2 b3 ft s 2 w) := by
  have a1 := al h.c7; have a2 := al h.c41; have a3 := al h.c43; have a4 := al h.c51; have a5 := al h.c52; have a6 := al h.c53
  clear h
  go_enter Try.func6, Try.ntmps6
  go_wp2
  have g1 := fun d os => cell_regrown (a1 (.cells #[.map none, .string ⟨#[]⟩, .int .u16 0, .bool false, .bool false, .bool false, .int .u8 0] 34)) d os
  have g2 := fun d os => cell_regrown (a2 (.cells #[.map none, .string ⟨#[]⟩, .int .u16 0, .bool false, .bool false, .bool false, .int .u8 0] 34)) d os
  have g3 := fun d os => cell_regrown (a3 (.cells #[.map none, .string ⟨#[]⟩, .int .u16 0, .bool false, .bool false, .bool false, .int .u8 0] 34)) d os
  have g4 := fun d os => cell_regrown (a4 (.cells #[.map none, .string ⟨#[]⟩, .int .u16 0, .bool false, .bool false, .bool false, .int .u8 0] 34)) d os
  have g5 := fun d os => cell_regrown (a5 (.cells #[.map none, .string ⟨#[]⟩, .int .u16 0, .bool false, .bool false, .bool false, .int .u8 0] 34)) d os
  have g6 := fun d os => cell_regrown (a6 (.cells #[.map none, .string ⟨#[]⟩, .int .u16 0, .bool false, .bool false, .bool false, .int .u8 0] 34)) d os
  refine drawn_tail 27 (by kernel_rfl) (by kernel_rfl) (by kernel_rfl) (fun Q hQ => ?_)
  simp only [List.take_succ_cons, List.take_zero, List.drop_succ_cons, List.drop_zero]
  repeat (quiet_step (fail))
  refine wpQuiet_nil ?_
  clear g1 g2 g3 g4 g5 g6 a1 a2 a3 a4 a5 a6
  intro W2 hw
  have hW : Below (w.alloc (.cells #[.map none, .string ⟨#[]⟩, .int .u16 0, .bool false, .bool false, .bool false, .int .u8 0] 34)).heap.size (w.alloc (.cells #[.map none, .string ⟨#[]⟩, .int .u16 0, .bool false, .bool false, .bool false, .int .u8 0] 34)) W2 := by
    obtain ⟨⟨d, os⟩, rfl⟩ := hw
    exact below_regrown _ d os
  clear hw
  have z0 := ac hW (a := ⟨w.heap.size, 0, none⟩) (v := .map none) (by simp [go_sem])
  have z1 := ac hW (a := ⟨w.heap.size, 1, none⟩) (v := .string ⟨#[]⟩) (by simp [go_sem])
  have z2 := ac hW (a := ⟨w.heap.size, 2, none⟩) (v := .int .u16 0) (by simp [go_sem])
  have z3 := ac hW (a := ⟨w.heap.size, 3, none⟩) (v := .bool false) (by simp [go_sem])
  have z4 := ac hW (a := ⟨w.heap.size, 4, none⟩) (v := .bool false) (by simp [go_sem])
  have z5 := ac hW (a := ⟨w.heap.size, 5, none⟩) (v := .bool false) (by simp [go_sem])
  have z6 := ac hW (a := ⟨w.heap.size, 6, none⟩) (v := .int .u8 0) (by simp [go_sem])
  have f0 := af hW (a := ⟨w.heap.size, 0, none⟩) (v := .map none) (by simp [go_sem]) (by simp [go_sem])
  have f1 := af hW (a := ⟨w.heap.size, 1, none⟩) (v := .string ⟨#[]⟩) (by simp [go_sem]) (by simp [go_sem])
  have f2 := af hW (a := ⟨w.heap.size, 2, none⟩) (v := .int .u16 0) (by simp [go_sem]) (by simp [go_sem])
  have f3 := af hW (a := ⟨w.heap.size, 3, none⟩) (v := .bool false) (by simp [go_sem]) (by simp [go_sem])
  have f4 := af hW (a := ⟨w.heap.size, 4, none⟩) (v := .bool false) (by simp [go_sem]) (by simp [go_sem])
  have f5 := af hW (a := ⟨w.heap.size, 5, none⟩) (v := .bool false) (by simp [go_sem]) (by simp [go_sem])
  have f6 := af hW (a := ⟨w.heap.size, 6, none⟩) (v := .int .u8 0) (by simp [go_sem]) (by simp [go_sem])
  have hB : Below w.heap.size w W2 := (ba w _).trans (hW.mono (by simp))
  clear hW
  go_wp2
  have Y := OAt.made (w := W2) (T := w.heap.size) m b1 b2 b3 ft s 2 z0 z1 z2 z3 z4 z5 z6
  have hB9 : Below w.heap.size w (((((((W2.setCell ⟨w.heap.size, 0, none⟩ (.map m)).setCell ⟨w.heap.size, 1, none⟩ (.string s)).setCell ⟨w.heap.size, 2, none⟩ (.int .u16 ft)).setCell ⟨w.heap.size, 3, none⟩ (.bool b1)).setCell ⟨w.heap.size, 4, none⟩ (.bool b2)).setCell ⟨w.heap.size, 5, none⟩ (.bool b3)).setCell ⟨w.heap.size, 6, none⟩ (.int .u8 2)) := by
    exact ((((((hB.setCell (Nat.le_refl _) _).setCell (Nat.le_refl _) _).setCell (Nat.le_refl _) _).setCell (Nat.le_refl _) _).setCell (Nat.le_refl _) _).setCell (Nat.le_refl _) _).setCell (Nat.le_refl _) _
  clear z0 z1 z2 z3 z4 z5 z6 f0 f1 f2 f3 f4 f5 f6 hB
  generalize (((((((W2.setCell ⟨w.heap.size, 0, none⟩ (.map m)).setCell ⟨w.heap.size, 1, none⟩ (.string s)).setCell ⟨w.heap.size, 2, none⟩ (.int .u16 ft)).setCell ⟨w.heap.size, 3, none⟩ (.bool b1)).setCell ⟨w.heap.size, 4, none⟩ (.bool b2)).setCell ⟨w.heap.size, 5, none⟩ (.bool b3)).setCell ⟨w.heap.size, 6, none⟩ (.int .u8 2)) = W9 at Y hB9 ⊢
  refine bodyPost_ret (v := optV m b1 b2 b3 ft s 2) (by simp [results, Try.results6, go_sem, Y.c0, Y.c1, Y.c2, Y.c3, Y.c4, Y.c5, Y.c6]) rfl ⟨rfl, hB9⟩
set_option maxRecDepth 100000 in
set_option maxHeartbeats 2000000 in
theorem opt6_x (b : Nat) (m : Option Nat) (b1 b2 b3 : Bool) (ft : Int) (s : ByteArray) (w : World) (h : Cfg w b m b1 b2 b3 ft s) (l : Int) (h9 : ¬ l = 9) (h14 : ¬ l = 14) :
    Calls Try.prog 6 #[.int .u8 l, .pointer (some ⟨b, 0, none⟩)] w (OptB m b1 b2 b3 ft s 0 w) := by
  have h9' : (l == 9) = false := by simpa using h9
  have h14' : (l == 14) = false := by simpa using h14
  have a1 := al h.c7; have a2 := al h.c41; have a3 := al h.c43; have a4 := al h.c51; have a5 := al h.c52; have a6 := al h.c53
  clear h
  go_enter Try.func6, Try.ntmps6
  go_wp2
  have g1 := fun d os => cell_regrown (a1 (.cells #[.map none, .string ⟨#[]⟩, .int .u16 0, .bool false, .bool false, .bool false, .int .u8 0] 34)) d os
  have g2 := fun d os => cell_regrown (a2 (.cells #[.map none, .string ⟨#[]⟩, .int .u16 0, .bool false, .bool false, .bool false, .int .u8 0] 34)) d os
  have g3 := fun d os => cell_regrown (a3 (.cells #[.map none, .string ⟨#[]⟩, .int .u16 0, .bool false, .bool false, .bool false, .int .u8 0] 34)) d os
  have g4 := fun d os => cell_regrown (a4 (.cells #[.map none, .string ⟨#[]⟩, .int .u16 0, .bool false, .bool false, .bool false, .int .u8 0] 34)) d os
  have g5 := fun d os => cell_regrown (a5 (.cells #[.map none, .string ⟨#[]⟩, .int .u16 0, .bool false, .bool false, .bool false, .int .u8 0] 34)) d os
  have g6 := fun d os => cell_regrown (a6 (.cells #[.map none, .string ⟨#[]⟩, .int .u16 0, .bool false, .bool false, .bool false, .int .u8 0] 34)) d os
  refine drawn_tail 27 (by kernel_rfl) (by kernel_rfl) (by kernel_rfl) (fun Q hQ => ?_)
  simp only [List.take_succ_cons, List.take_zero, List.drop_succ_cons, List.drop_zero]
  repeat (quiet_step (fail))
  refine wpQuiet_nil ?_
  clear g1 g2 g3 g4 g5 g6 a1 a2 a3 a4 a5 a6
  intro W2 hw
  have hW : Below (w.alloc (.cells #[.map none, .string ⟨#[]⟩, .int .u16 0, .bool false, .bool false, .bool false, .int .u8 0] 34)).heap.size (w.alloc (.cells #[.map none, .string ⟨#[]⟩, .int .u16 0, .bool false, .bool false, .bool false, .int .u8 0] 34)) W2 := by
    obtain ⟨⟨d, os⟩, rfl⟩ := hw
    exact below_regrown _ d os
  clear hw
  have z0 := ac hW (a := ⟨w.heap.size, 0, none⟩) (v := .map none) (by simp [go_sem])
  have z1 := ac hW (a := ⟨w.heap.size, 1, none⟩) (v := .string ⟨#[]⟩) (by simp [go_sem])
  have z2 := ac hW (a := ⟨w.heap.size, 2, none⟩) (v := .int .u16 0) (by simp [go_sem])
  have z3 := ac hW (a := ⟨w.heap.size, 3, none⟩) (v := .bool false) (by simp [go_sem])
  have z4 := ac hW (a := ⟨w.heap.size, 4, none⟩) (v := .bool false) (by simp [go_sem])
  have z5 := ac hW (a := ⟨w.heap.size, 5, none⟩) (v := .bool false) (by simp [go_sem])
  have z6 := ac hW (a := ⟨w.heap.size, 6, none⟩) (v := .int .u8 0) (by simp [go_sem])
  have f0 := af hW (a := ⟨w.heap.size, 0, none⟩) (v := .map none) (by simp [go_sem]) (by simp [go_sem])
  have f1 := af hW (a := ⟨w.heap.size, 1, none⟩) (v := .string ⟨#[]⟩) (by simp [go_sem]) (by simp [go_sem])
  have f2 := af hW (a := ⟨w.heap.size, 2, none⟩) (v := .int .u16 0) (by simp [go_sem]) (by simp [go_sem])
  have f3 := af hW (a := ⟨w.heap.size, 3, none⟩) (v := .bool false) (by simp [go_sem]) (by simp [go_sem])
  have f4 := af hW (a := ⟨w.heap.size, 4, none⟩) (v := .bool false) (by simp [go_sem]) (by simp [go_sem])
  have f5 := af hW (a := ⟨w.heap.size, 5, none⟩) (v := .bool false) (by simp [go_sem]) (by simp [go_sem])
  have f6 := af hW (a := ⟨w.heap.size, 6, none⟩) (v := .int .u8 0) (by simp [go_sem]) (by simp [go_sem])
  have hB : Below w.heap.size w W2 := (ba w _).trans (hW.mono (by simp))
  clear hW
  go_wp2
  have Y := OAt.made (w := W2) (T := w.heap.size) m b1 b2 b3 ft s 0 z0 z1 z2 z3 z4 z5 z6
  have hB9 : Below w.heap.size w (((((((W2.setCell ⟨w.heap.size, 0, none⟩ (.map m)).setCell ⟨w.heap.size, 1, none⟩ (.string s)).setCell ⟨w.heap.size, 2, none⟩ (.int .u16 ft)).setCell ⟨w.heap.size, 3, none⟩ (.bool b1)).setCell ⟨w.heap.size, 4, none⟩ (.bool b2)).setCell ⟨w.heap.size, 5, none⟩ (.bool b3)).setCell ⟨w.heap.size, 6, none⟩ (.int .u8 0)) := by
    exact ((((((hB.setCell (Nat.le_refl _) _).setCell (Nat.le_refl _) _).setCell (Nat.le_refl _) _).setCell (Nat.le_refl _) _).setCell (Nat.le_refl _) _).setCell (Nat.le_refl _) _).setCell (Nat.le_refl _) _
  clear z0 z1 z2 z3 z4 z5 z6 f0 f1 f2 f3 f4 f5 f6 hB
  generalize (((((((W2.setCell ⟨w.heap.size, 0, none⟩ (.map m)).setCell ⟨w.heap.size, 1, none⟩ (.string s)).setCell ⟨w.heap.size, 2, none⟩ (.int .u16 ft)).setCell ⟨w.heap.size, 3, none⟩ (.bool b1)).setCell ⟨w.heap.size, 4, none⟩ (.bool b2)).setCell ⟨w.heap.size, 5, none⟩ (.bool b3)).setCell ⟨w.heap.size, 6, none⟩ (.int .u8 0)) = W9 at Y hB9 ⊢
  refine bodyPost_ret (v := optV m b1 b2 b3 ft s 0) (by simp [results, Try.results6, go_sem, Y.c0, Y.c1, Y.c2, Y.c3, Y.c4, Y.c5, Y.c6]) rfl ⟨rfl, hB9⟩
theorem opt6_c (l : Int) (b : Nat) (m : Option Nat) (b1 b2 b3 : Bool) (ft : Int) (s : ByteArray) (w : World) (h : Cfg w b m b1 b2 b3 ft s) :
    Calls Try.prog 6 #[.int .u8 l, .pointer (some ⟨b, 0, none⟩)] w (OptB m b1 b2 b3 ft s (md l) w) := by
  by_cases h9 : l = 9
  · subst h9; exact opt6_9 b m b1 b2 b3 ft s w h
  · by_cases h14 : l = 14
    · subst h14; exact opt6_14 b m b1 b2 b3 ft s w h
    · have e : md l = 0 := by unfold md; rw [if_neg h9, if_neg h14]
      rw [e]; exact opt6_x b m b1 b2 b3 ft s w h l h9 h14
end Go.Proofs.Ytjhhecpnonaniaa

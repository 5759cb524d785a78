/- TokensEqualIgnoringWhitespace. -/
import Derived.Test.YthdogpahkglaoaaDoorBc3
set_option linter.unusedVariables false
set_option linter.unusedSimpArgs false
namespace Go.Proofs.YthdogpahkglaoaaDoor
open Go.RowKit
theorem tokNew (w : World) (t : Tk) (ty : TypeId) : TAt (w.alloc (.cells #[t.ch, .string t.tx, .int .i32 t.lo, .int .u32 t.pl, .int .u16 t.uo, .int .u8 t.kd, .int .u8 t.ws] ty)) w.heap.size 0 t :=
  ⟨by simp [go_sem], by simp [go_sem], by simp [go_sem], by simp [go_sem], by simp [go_sem], by simp [go_sem], by simp [go_sem]⟩
def lEq (n m : Nat) (F G : Nat → Tk) : Bool := decide (n = m) && (List.range n).all fun i => tkEq (F i) (G i)
theorem lEq_no {n m : Nat} {F G : Nat → Tk} {i : Nat} (hi : i < n) (h : tkEq (F i) (G i) = false) : lEq n m F G = false := by
  unfold lEq
  rw [Bool.and_eq_false_iff]
  right
  rw [List.all_eq_false]
  exact ⟨i, by simpa using hi, by simp [h]⟩
theorem lEq_yes {n : Nat} {F G : Nat → Tk} (h : ∀ i, i < n → tkEq (F i) (G i) = true) : lEq n n F G = true := by
  unfold lEq
  simp only [decide_true, Bool.true_and, List.all_eq_true, List.mem_range]
  exact h
set_option maxRecDepth 100000 in
set_option maxHeartbeats 4000000 in
theorem list_c (T1 T2 n m c1 c2 : Nat) (F G : Nat → Tk) (w : World) (hn : n ≤ 4096) (hm : m ≤ 4096) (hF : ∀ i, i < n → TAt w T1 (i * 7) (F i)) (hG : ∀ i, i < m → TAt w T2 (i * 7) (G i)) (cF : ∀ i, i < n → (F i).ch = .pointer none) (cG : ∀ i, i < m → (G i).ch = .pointer none) :
    Calls Tryd.prog 33 #[.slice (some ⟨T1, 0, none⟩) n c1, .slice (some ⟨T2, 0, none⟩) m c2] w (Gv (.bool (lEq n m F G)) w) := by
  have HF := Lib.hid hF; have HG := Lib.hid hG; have CF := Lib.hid cF; have CG := Lib.hid cG
  clear hF hG cF cG
  by_cases hnm : n = m
  · subst hnm
    go_enter Tryd.func33, Tryd.ntmps33
    go_wp2
    go_loopw [14] (fun v wr => ∃ i : Nat, i ≤ n ∧ v = .int .i64 i ∧ (∀ j, j < i → tkEq (F j) (G j) = true) ∧ Below w.heap.size w wr) (fun v _ => n - (intOf v).toNat)
    case atStart => exact ⟨0, by omega, rfl, fun j hj => by omega, Below.refl _ _⟩
    case round =>
      obtain ⟨i, hi, rfl, hall, hb⟩ := hrel
      replace hall := Lib.hid hall
      by_cases hlt : i < n
      · have i0 : (0 : Int) ≤ i := by omega
        have i1 : (i : Int) < n := by omega
        have tf := (HF.out i hlt).after hb
        have tg := (HG.out i hlt).after hb
        have cf := CF.out i hlt
        have cg := CG.out i hlt
        have hno := Lib.hid (fun h => lEq_no (m := n) hlt (F := F) (G := G) (i := i) h)
        have hst := Lib.hid (fun (h : tkEq (F i) (G i) = true) j (hj : j < i + 1) => (by
          by_cases e : j = i
          · subst e; exact h
          · exact hall.out j (by omega) : tkEq (F j) (G j) = true))
        generalize F i = f at tf cf hno hst
        generalize G i = g at tg cg hno hst
        have C24 := Lib.hid (fun w => eq_c f g cf cg w)
        obtain ⟨fc, fx, fl, fp, fu, fk, fw⟩ := f
        obtain ⟨gc, gx, gl, gp, gu, gk, gw⟩ := g
        dsimp only at cf cg
        subst cf cg
        obtain ⟨a0, a1, a2, a3, a4, a5, a6⟩ := tf
        dsimp only at a0 a1 a2 a3 a4 a5 a6
        replace tg := Lib.hid tg
        replace hb := Lib.hid hb
        go_upto_region 6 with fail
        refine wp_gen (fun W hW => ?_)
        have hbW : Below wr.heap.size wr W := by rw [hW]; exact ba _ _
        have tn : TAt W wr.heap.size 0 (⟨.pointer none, fx, fl, fp, fu, fk, fw⟩ : Tk) := by rw [hW]; exact tokNew wr (⟨.pointer none, fx, fl, fp, fu, fk, fw⟩ : Tk) 32
        clear hW a0 a1 a2 a3 a4 a5 a6
        have tg' := tg.out.after hbW
        generalize hP : wr.heap.size = P at *
        replace hP := Lib.hid hP
        obtain ⟨b0, b1, b2, b3, b4, b5, b6⟩ := tn
        obtain ⟨e0, e1, e2, e3, e4, e5, e6⟩ := tg'
        dsimp only at b0 b1 b2 b3 b4 b5 b6 e0 e1 e2 e3 e4 e5 e6
        simp only [Nat.zero_add] at b1 b2 b3 b4 b5 b6
        have y0 := fun d os => cell_regrown b0 d os
        have z0 := fun d os => cell_regrown e0 d os
        have y1 := fun d os => cell_regrown b1 d os
        have z1 := fun d os => cell_regrown e1 d os
        have y2 := fun d os => cell_regrown b2 d os
        have z2 := fun d os => cell_regrown e2 d os
        have y3 := fun d os => cell_regrown b3 d os
        have z3 := fun d os => cell_regrown e3 d os
        have y4 := fun d os => cell_regrown b4 d os
        have z4 := fun d os => cell_regrown e4 d os
        have y5 := fun d os => cell_regrown b5 d os
        have z5 := fun d os => cell_regrown e5 d os
        have y6 := fun d os => cell_regrown b6 d os
        have z6 := fun d os => cell_regrown e6 d os
        replace hb := Lib.hid (hb.out.trans (hbW.mono (by rw [← hP.out]; exact hb.out.size)))
        have C24' := Lib.hid (fun d os => C24.out (Sort.grow (redrawn W d) os))
        clear b0 b1 b2 b3 b4 b5 b6 e0 e1 e2 e3 e4 e5 e6 tg
        cases ht : tkEq (⟨.pointer none, fx, fl, fp, fu, fk, fw⟩ : Tk) (⟨.pointer none, gx, gl, gp, gu, gk, gw⟩ : Tk) with
        | false =>
          rw [ht] at C24'
          refine drawn_tail 6 (by kernel_rfl) (by kernel_rfl) (by kernel_rfl) (fun Q hQ => ?_)
          simp only [List.take_succ_cons, List.take_zero, List.drop_succ_cons, List.drop_zero]
          repeat (quiet_step (exact Calls.regrown_of (C24'.out _ _)))
          refine wpQuiet_nil ?_
          intro W3 hw
          have hb3 : Hid (Below w.heap.size w W3) := Lib.hid (by
            obtain ⟨⟨d, os⟩, rfl⟩ := hw
            exact hb.out.trans ((below_regrown _ d os).mono hb.out.size))
          clear hw C24' y0 z0 y1 z1 y2 z2 y3 z3 y4 z4 y5 z5 y6 z6
          go_wp2
          go_ret
          exact ⟨by rw [hno.out ht]; rfl, hb3.out⟩
        | true =>
          rw [ht] at C24'
          refine drawn_tail 6 (by kernel_rfl) (by kernel_rfl) (by kernel_rfl) (fun Q hQ => ?_)
          simp only [List.take_succ_cons, List.take_zero, List.drop_succ_cons, List.drop_zero]
          repeat (quiet_step (exact Calls.regrown_of (C24'.out _ _)))
          refine wpQuiet_nil ?_
          intro W3 hw
          have hb3 : Hid (Below w.heap.size w W3) := Lib.hid (by
            obtain ⟨⟨d, os⟩, rfl⟩ := hw
            exact hb.out.trans ((below_regrown _ d os).mono hb.out.size))
          clear hw C24' y0 z0 y1 z1 y2 z2 y3 z3 y4 z4 y5 z5 y6 z6
          go_wp2
          go_roundw
          case rel => exact ⟨i + 1, by omega, by go_num, hst.out ht, hb3.out⟩
          case measure => simp [intOf]; omega
      · obtain rfl : i = n := by omega
        have hy := Lib.hid (lEq_yes hall.out)
        replace hb := Lib.hid hb
        go_wp2
        go_ret
        exact ⟨by rw [hy.out]; rfl, hb.out⟩
  · have e : lEq n m F G = false := by unfold lEq; simp [hnm]
    have hnm' : ¬ ((n : Int) = m) := by omega
    replace e := Lib.hid e
    clear hnm
    go_enter Tryd.func33, Tryd.ntmps33
    go_wp2
    go_ret
    exact ⟨by rw [e.out]; rfl, Below.refl _ _⟩
end Go.Proofs.YthdogpahkglaoaaDoor

/- zzCheckList, zzCheckValue: what they answer at the right tokens. -/
import Derived.Test.YthdogpahkglaoaaDoorBc5
set_option linter.unusedVariables false
set_option linter.unusedSimpArgs false
namespace Go.Proofs.YthdogpahkglaoaaDoor
open Go.RowKit
def qI (a b c d : Int) (i : Nat) : Int := if i = 0 then a else if i = 1 then b else if i = 2 then c else d
theorem Q4.at {w : World} {P : Nat} {a b c d : Int} (h : Q4 w P a b c d) (i : Nat) (hi : i < 4) : w.cell? ⟨P, i, none⟩ = some (.int .u8 (qI a b c d i)) := by
  obtain ⟨h0, h1, h2, h3⟩ := h
  match i, hi with
  | 0, _ => exact h0
  | 1, _ => exact h1
  | 2, _ => exact h2
  | 3, _ => exact h3
/-- the token that is wanted at place i of k -/
def wantT (a b c d : Int) (k : Nat) (m : Bool) (i : Nat) (t : Tk) : Prop := t.ch = .pointer none ∧ t.kd = kdC (qI a b c d i) ∧ t.tx = txC (qI a b c d i) ∧ t.ws = wsF i k m
set_option maxRecDepth 100000 in
set_option maxHeartbeats 4000000 in
theorem check_c (T k cc : Nat) (a b c d : Int) (m : Bool) (F : Nat → Tk) (w : World) (hk : k ≤ 4) (hF : ∀ i, i < k → TAt w T (i * 7) (F i) ∧ wantT a b c d k m i (F i)) (hr : ∀ i, i < 4 → 0 ≤ qI a b c d i ∧ qI a b c d i ≤ 255) :
    Calls Tryd.prog 20 #[.slice (some ⟨T, 0, none⟩) k cc, .int .i64 0, q4 a b c d, .int .i64 k, .bool m] w (Gv (.bool true) w) := by
  have HF := Lib.hid hF; have HR := Lib.hid hr
  clear hF hr
  go_enter Tryd.func20, Tryd.ntmps20
  go_upto_region 2 with fail
  refine wp_gen (fun W hW => ?_)
  have hb : Hid (Below w.heap.size w W) := Lib.hid (by rw [hW]; exact ba _ _)
  have hQ : Hid (Q4 W w.heap.size a b c d) := Lib.hid (by rw [hW]; exact ⟨by simp [go_sem], by simp [go_sem], by simp [go_sem], by simp [go_sem]⟩)
  clear hW
  generalize hP : w.heap.size = P at hQ ⊢
  replace hP := Lib.hid hP
  go_wp2
  go_loopw [11] (fun v wr => ∃ i : Nat, i ≤ k ∧ v = .int .i64 i ∧ Below W.heap.size W wr) (fun v _ => k - (intOf v).toNat)
  case atStart => exact ⟨0, by omega, rfl, Below.refl _ _⟩
  case round =>
    obtain ⟨i, hi, rfl, hB⟩ := hrel
    have hbB : Hid (Below w.heap.size w wr) := Lib.hid (hb.out.trans (hB.mono hb.out.size))
    by_cases hlt : i < k
    · have i0 : (0 : Int) ≤ i := by omega
      have i1 : (i : Int) < k := by omega
      have i4 : (i : Int) < 4 := by omega
      obtain ⟨tf, g1, g2, g3, g4⟩ := HF.out i hlt
      have tf := tf.after hbB.out
      have dq := (hQ.out.after hB).at i (by omega)
      have hR := HR.out i (by omega)
      generalize F i = f at tf g1 g2 g3 g4
      obtain ⟨fc, fx, fl, fp, fu, fk, fw⟩ := f
      dsimp only at g1 g2 g3 g4
      subst g1 g2 g3
      have C29 := Lib.hid (fun w => same_c (⟨.pointer none, txC (qI a b c d i), fl, fp, fu, kdC (qI a b c d i), fw⟩ : Tk) (qI a b c d i) hR.1 hR.2 w)
      have e29 : ((⟨.pointer none, txC (qI a b c d i), fl, fp, fu, kdC (qI a b c d i), fw⟩ : Tk).kd == kdC (qI a b c d i) && ((⟨.pointer none, txC (qI a b c d i), fl, fp, fu, kdC (qI a b c d i), fw⟩ : Tk).tx.toList == (txC (qI a b c d i)).toList)) = true := by simp
      rw [e29] at C29
      clear e29 hR
      generalize txC (qI a b c d i) = X at tf C29
      generalize kdC (qI a b c d i) = KK at tf C29
      generalize qI a b c d i = qq at dq C29
      obtain ⟨a0, a1, a2, a3, a4, a5, a6⟩ := tf
      dsimp only at a0 a1 a2 a3 a4 a5 a6
      replace hB := Lib.hid hB
      replace g4 := Lib.hid g4
      go_upto_region 5 with fail
      refine wp_gen (fun V hV => ?_)
      have hbV : Below wr.heap.size wr V := by rw [hV]; exact ba _ _
      have tn : TAt V wr.heap.size 0 (⟨.pointer none, X, fl, fp, fu, KK, fw⟩ : Tk) := by rw [hV]; exact tokNew wr (⟨.pointer none, X, fl, fp, fu, KK, fw⟩ : Tk) 32
      clear hV a0 a1 a2 a3 a4 a5 a6
      have dq' := ac hbV dq
      have hBV := Lib.hid (hB.out.trans (hbV.mono hB.out.size))
      clear hbV dq
      generalize wr.heap.size = R at *
      obtain ⟨b0, b1, b2, b3, b4, b5, b6⟩ := tn
      dsimp only at b0 b1 b2 b3 b4 b5 b6
      simp only [Nat.zero_add] at b1 b2 b3 b4 b5 b6
      have hb6 := Lib.hid b6
      have y0 := fun d os => cell_regrown b0 d os
      have y1 := fun d os => cell_regrown b1 d os
      have y2 := fun d os => cell_regrown b2 d os
      have y3 := fun d os => cell_regrown b3 d os
      have y4 := fun d os => cell_regrown b4 d os
      have y5 := fun d os => cell_regrown b5 d os
      have y6 := fun d os => cell_regrown b6 d os
      have yq := fun d os => cell_regrown dq' d os
      have C29' := Lib.hid (fun d os => C29.out (Sort.grow (redrawn V d) os))
      clear b0 b1 b2 b3 b4 b5 b6 dq'
      refine drawn_tail 5 (by kernel_rfl) (by kernel_rfl) (by kernel_rfl) (fun Q hQ => ?_)
      simp only [List.take_succ_cons, List.take_zero, List.drop_succ_cons, List.drop_zero]
      repeat (quiet_step (exact Calls.regrown_of (C29'.out _ _)))
      refine wpQuiet_nil ?_
      intro W3 hw
      have hb3 : Hid (Below W.heap.size W W3) := Lib.hid (by
        obtain ⟨⟨d, os⟩, rfl⟩ := hw
        exact hBV.out.trans ((below_regrown _ d os).mono hBV.out.size))
      have d6 : W3.cell? ⟨R, 6, none⟩ = some (.int .u8 fw) := by
        obtain ⟨⟨d, os⟩, rfl⟩ := hw
        exact cell_regrown hb6.out d os
      clear hw C29 C29' yq hb6 y0 y1 y2 y3 y4 y5 y6
      rw [g4.out] at d6
      have ew : wsF i k m = (if m = false ∨ 0 < i then 1 else 0) + (if i + 1 < k then 2 else 0) := rfl
      rw [ew] at d6
      clear ew g4
      by_cases hp : 0 < i <;> by_cases hl : i + 1 < k <;> cases m
      all_goals
        simp only [hp, hl, or_true, true_or, if_true, if_false, Bool.true_eq_false, or_false, false_or] at d6
        go_wp2
        go_roundw
        case rel => exact ⟨i + 1, by omega, by go_num, hb3.out⟩
        case measure => simp [intOf]; omega
    · obtain rfl : i = k := by omega
      clear hB
      go_wp2
      go_ret
      exact ⟨rfl, hbB.out⟩
end Go.Proofs.YthdogpahkglaoaaDoor

/- FnMangleSide: zzCheckValue; words on codes. -/
import Derived.Test.YtgijoikmggjopaaDoorMs7
import Derived.Test.YtgijoikmggjopaaDoorMs4
set_option linter.unusedVariables false
set_option linter.unusedSimpArgs false
namespace Go.Proofs.YtgijoikmggjopaaDoor
open Go.RowKit
def qI (a b c d : Int) (i : Nat) : Int := if i = 0 then a else if i = 1 then b else if i = 2 then c else d
theorem Q4.at {w : World} {P : Nat} {a b c d : Int} (h : Q4 w P a b c d) (i : Nat) (hi : i < 4) : w.cell? ⟨P, i, none⟩ = some (.int .u8 (qI a b c d i)) := by
  obtain ⟨h0, h1, h2, h3⟩ := h
  match i, hi with
  | 0, _ => exact h0
  | 1, _ => exact h1
  | 2, _ => exact h2
  | 3, _ => exact h3
theorem minN_le (a b c d : Int) : 1 ≤ minN a b c d ∧ minN a b c d ≤ 4 := by
  unfold minN
  repeat' split
  all_goals omega
def L4 (w : World) (P : Nat) (a b c d : Int) : Prop := w.cell? ⟨P, 0, none⟩ = some (.int .i32 a) ∧ w.cell? ⟨P, 1, none⟩ = some (.int .i32 b) ∧ w.cell? ⟨P, 2, none⟩ = some (.int .i32 c) ∧ w.cell? ⟨P, 3, none⟩ = some (.int .i32 d)
theorem L4.after {w w' : World} {P : Nat} {a b c d : Int} (h : L4 w P a b c d) (hb : Below w.heap.size w w') : L4 w' P a b c d := ⟨ac hb h.1, ac hb h.2.1, ac hb h.2.2.1, ac hb h.2.2.2⟩
theorem L4.at {w : World} {P : Nat} {a b c d : Int} (h : L4 w P a b c d) (i : Nat) (hi : i < 4) : w.cell? ⟨P, i, none⟩ = some (.int .i32 (qI a b c d i)) := by
  match i, hi with
  | 0, _ => exact h.1
  | 1, _ => exact h.2.1
  | 2, _ => exact h.2.2.1
  | 3, _ => exact h.2.2.2
theorem qI_r {a b c d lo hi : Int} (ha : lo ≤ a ∧ a ≤ hi) (hb : lo ≤ b ∧ b ≤ hi) (hc : lo ≤ c ∧ c ≤ hi) (hd : lo ≤ d ∧ d ≤ hi) (i : Nat) : lo ≤ qI a b c d i ∧ qI a b c d i ≤ hi := by
  unfold qI
  repeat' split
  all_goals assumption
set_option maxRecDepth 100000 in
set_option maxHeartbeats 4000000 in
theorem check_c (T k cc : Nat) (a b c d l0 l1 l2 l3 : Int) (m : Bool) (F : Nat → Tk) (w : World) (hk : k = minN a b c d) (ha : 0 ≤ a ∧ a ≤ 4) (hb : 0 ≤ b ∧ b ≤ 4) (hc : 0 ≤ c ∧ c ≤ 4) (hd : 0 ≤ d ∧ d ≤ 4) (hF : ∀ i, i < k → TAt w T (i * 7) (F i) ∧ (F i).ch = .pointer none ∧ (F i).kd = kdS (qI a b c d i) ∧ (F i).tx = txS (qI a b c d i) ∧ (F i).ws = wsF i k m ∧ (F i).lo = qI l0 l1 l2 l3 i) :
    Calls Tryd.prog 12 #[.slice (some ⟨T, 0, none⟩) k cc, q4 a b c d, .agg #[.int .i32 l0, .int .i32 l1, .int .i32 l2, .int .i32 l3], .bool m] w (Gv (.bool true) w) := by
  have HF := Lib.hid hF
  have C14 := Lib.hid (fun w => min_c a b c d w)
  have k4 : k ≤ 4 := by rw [hk]; exact (minN_le a b c d).2
  rw [← hk] at C14
  have CW := Lib.hid (fun i w (hi : i < 4) => ws_c i k m hi k4 w)
  have HQ := Lib.hid (fun i => qI_r ha hb hc hd i)
  have k0 : (0 : Int) ≤ k := by omega
  have k5 : (k : Int) ≤ 4 := by omega
  clear hF ha hb hc hd hk
  go_enter Tryd.func12, Tryd.ntmps12
  go_upto_region 1 with fail
  refine wp_gen (fun W hW => ?_)
  have hb : Hid (Below w.heap.size w W) := Lib.hid (by rw [hW]; exact (ba _ _).trans ((ba _ _).mono (by simp)))
  have hQ : Hid (Q4 W w.heap.size a b c d) := Lib.hid (by rw [hW]; exact ⟨by simp [go_sem], by simp [go_sem], by simp [go_sem], by simp [go_sem]⟩)
  have hL : Hid (L4 W (w.heap.size + 1) l0 l1 l2 l3) := Lib.hid (by rw [hW]; exact ⟨by simp [go_sem], by simp [go_sem], by simp [go_sem], by simp [go_sem]⟩)
  clear hW
  obtain ⟨P, hP⟩ : ∃ x, w.heap.size = x := ⟨_, rfl⟩
  rw [hP] at hQ hL ⊢
  clear hP
  have q0 := hQ.out.1
  have q1 := hQ.out.2.1
  have q2 := hQ.out.2.2.1
  have q3 := hQ.out.2.2.2
  go_wp2_with (go_at_call 14; (with_reducible refine (C14.out _).mono ?_); rintro e w1 ⟨rfl, b1⟩; replace hQ := Lib.hid (hQ.out.after b1); replace hL := Lib.hid (hL.out.after b1); replace hb := Lib.hid (hb.out.trans (b1.mono hb.out.size)); clear b1)
  clear q0 q1 q2 q3
  go_loopw [10] (fun v wr => ∃ i : Nat, i ≤ k ∧ v = .int .i64 i ∧ Below w1.heap.size w1 wr) (fun v _ => k - (intOf v).toNat)
  case atStart => exact ⟨0, by omega, rfl, Below.refl _ _⟩
  case round =>
    obtain ⟨i, hi, rfl, hB⟩ := hrel
    obtain ⟨w2, rfl⟩ : ∃ w2 : World, w2 = wr := ⟨_, rfl⟩
    replace hB := Lib.hid hB
    by_cases hlt : i < k
    · have i0 : (0 : Int) ≤ i := by omega
      have i1 : (i : Int) < k := by omega
      have i2 : (i : Int) < 4 := by omega
      obtain ⟨hT, hch, hkd, htx, hws, hlo⟩ := HF.out i hlt
      have hT := (hT.after hb.out).after hB.out
      obtain ⟨x, hx⟩ : ∃ x, x = qI a b c d i := ⟨_, rfl⟩
      obtain ⟨y, hy⟩ : ∃ y, y = qI l0 l1 l2 l3 i := ⟨_, rfl⟩
      obtain ⟨z, hz⟩ : ∃ z, z = wsF i k m := ⟨_, rfl⟩
      have CI := CW.out i
      obtain ⟨xa, xb⟩ := HQ.out i
      rw [← hx] at hkd htx xa xb
      rw [← hz] at hws CI
      rw [← hy] at hlo
      have cx := (hQ.out.after hB.out).at i (by omega)
      have cy := (hL.out.after hB.out).at i (by omega)
      rw [← hx] at cx
      rw [← hy] at cy
      obtain ⟨t, ht⟩ : ∃ t, t = F i := ⟨_, rfl⟩
      rw [← ht] at hT hch hkd htx hws hlo
      have hS := Lib.hid (hT.seg hch)
      have CT : Hid (∀ w, Calls Tryd.prog 10 #[.agg #[.pointer none, .string t.tx, .int .i32 y, .int .u32 t.pl, .int .u16 t.uo, .int .u8 t.kd, .int .u8 z], .int .u8 x] w (Gv (.bool true) w)) := Lib.hid (fun w => by
        have := isT_c t x xa xb hkd htx w
        rw [tkV_eq hch] at this
        rw [← hlo, ← hws]
        exact this)
      replace CI := Lib.hid (fun w => CI w (by omega))
      clear hT hx hy hz ht hch
      replace hkd := Lib.hid hkd
      replace htx := Lib.hid htx
      have d0 : w2.cell? ⟨T, i * 7, none⟩ = some (.pointer none) := by simpa using hS.out 0 _ rfl
      have d1 : w2.cell? ⟨T, i * 7 + 1, none⟩ = some (.string t.tx) := by simpa using hS.out 1 _ rfl
      have d2 : w2.cell? ⟨T, i * 7 + 2, none⟩ = some (.int .i32 y) := by rw [← hlo]; simpa using hS.out 2 _ rfl
      have d3 : w2.cell? ⟨T, i * 7 + 3, none⟩ = some (.int .u32 t.pl) := by simpa using hS.out 3 _ rfl
      have d4 : w2.cell? ⟨T, i * 7 + 4, none⟩ = some (.int .u16 t.uo) := by simpa using hS.out 4 _ rfl
      have d5 : w2.cell? ⟨T, i * 7 + 5, none⟩ = some (.int .u8 t.kd) := by simpa using hS.out 5 _ rfl
      have d6 : w2.cell? ⟨T, i * 7 + 6, none⟩ = some (.int .u8 z) := by rw [← hws]; simpa using hS.out 6 _ rfl
      clear hlo hws
      go_upto_region 8 with fail
      refine wp_gen (fun W3 hW => ?_)
      have B3 : Hid (Below w2.heap.size w2 W3) := Lib.hid (by rw [hW]; exact ba _ _)
      have s3 : Hid (Seg W3 w2.heap.size 0 [.pointer none, .string t.tx, .int .i32 y, .int .u32 t.pl, .int .u16 t.uo, .int .u8 t.kd, .int .u8 z]) := Lib.hid (by rw [hW]; exact Seg.new _ _ _)
      clear hW d0 d1 d2 d3 d4 d5 d6
      replace cx := ac B3.out cx
      replace cy := ac B3.out cy
      obtain ⟨U, hU⟩ : ∃ u, w2.heap.size = u := ⟨_, rfl⟩
      rw [hU] at s3 ⊢
      have y0 : ∀ dd os, (Sort.grow (redrawn W3 dd) os).cell? ⟨U, 0, none⟩ = some (.pointer none) := fun dd os => cell_regrown (by simpa using s3.out 0 _ rfl) dd os
      have y1 : ∀ dd os, (Sort.grow (redrawn W3 dd) os).cell? ⟨U, 1, none⟩ = some (.string t.tx) := fun dd os => cell_regrown (by simpa using s3.out 1 _ rfl) dd os
      have y2 : ∀ dd os, (Sort.grow (redrawn W3 dd) os).cell? ⟨U, 2, none⟩ = some (.int .i32 y) := fun dd os => cell_regrown (by simpa using s3.out 2 _ rfl) dd os
      have y3 : ∀ dd os, (Sort.grow (redrawn W3 dd) os).cell? ⟨U, 3, none⟩ = some (.int .u32 t.pl) := fun dd os => cell_regrown (by simpa using s3.out 3 _ rfl) dd os
      have y4 : ∀ dd os, (Sort.grow (redrawn W3 dd) os).cell? ⟨U, 4, none⟩ = some (.int .u16 t.uo) := fun dd os => cell_regrown (by simpa using s3.out 4 _ rfl) dd os
      have y5 : ∀ dd os, (Sort.grow (redrawn W3 dd) os).cell? ⟨U, 5, none⟩ = some (.int .u8 t.kd) := fun dd os => cell_regrown (by simpa using s3.out 5 _ rfl) dd os
      have y6 : ∀ dd os, (Sort.grow (redrawn W3 dd) os).cell? ⟨U, 6, none⟩ = some (.int .u8 z) := fun dd os => cell_regrown (by simpa using s3.out 6 _ rfl) dd os
      have yx := fun dd os => cell_regrown cx dd os
      have yy := fun dd os => cell_regrown cy dd os
      refine drawn_tail 23 (by kernel_rfl) (by kernel_rfl) (by kernel_rfl) (fun Q hQ => ?_)
      simp only [List.take_succ_cons, List.take_zero, List.drop_succ_cons, List.drop_zero]
      repeat (quiet_step (first | exact Calls.regrown_of (CT.out _) | exact Calls.regrown_of (CI.out _)))
      refine wpQuiet_nil ?_
      intro W4 hw
      have B4 : Hid (Below w1.heap.size w1 W4) := Lib.hid (by
        obtain ⟨⟨d, os⟩, rfl⟩ := hw
        exact hB.out.trans ((B3.out.trans ((below_regrown _ d os).mono B3.out.size)).mono hB.out.size))
      clear hw y0 y1 y2 y3 y4 y5 y6 yx yy cx cy
      go_wp2
      go_roundw
      case rel => exact ⟨i + 1, by omega, by go_num, B4.out⟩
      case measure => simp [intOf]; omega
    · obtain rfl : i = k := by omega
      go_wp2
      go_ret
      exact ⟨rfl, hb.out.trans (hB.out.mono hb.out.size)⟩
theorem tkEq_zk (a b l l' : Int) (ha : 0 ≤ a ∧ a ≤ 4) (hb : 0 ≤ b ∧ b ≤ 4) : tkEq (zk a l) (zk b l') = decide (a = b) := by
  show (kdS a == kdS b && ((txS a).toList == (txS b).toList) && ((0 : Int) == 0)) = _
  rcases c5 ha.1 ha.2 with rfl | rfl | rfl | rfl | rfl <;> rcases c5 hb.1 hb.2 with rfl | rfl | rfl | rfl | rfl <;> decide +kernel
theorem kMin_zk (a b c d la lb lc ld : Int) (ha : 0 ≤ a ∧ a ≤ 4) (hb : 0 ≤ b ∧ b ≤ 4) (hc : 0 ≤ c ∧ c ≤ 4) (hd : 0 ≤ d ∧ d ≤ 4) : kMin (zk a la) (zk b lb) (zk c lc) (zk d ld) = minN a b c d := by
  unfold kMin minN
  rw [tkEq_zk d b _ _ hd hb, tkEq_zk c a _ _ hc ha, tkEq_zk b a _ _ hb ha]
  simp only [decide_eq_true_eq]
  by_cases h1 : d = b
  · by_cases h2 : c = a
    · by_cases h3 : b = a
      · rw [if_pos h1, if_pos h2, if_pos h3, if_pos ⟨h3, h2, h1.trans h3⟩]
      · rw [if_pos h1, if_pos h2, if_neg h3, if_neg (fun h => h3 h.1), if_pos ⟨h2, h1⟩]
    · rw [if_pos h1, if_neg h2, if_neg (fun h => h2 h.2.1), if_neg (fun h => h2 h.1), if_pos h1]
  · rw [if_neg h1, if_neg (fun h => h1 (h.2.2.trans h.1.symm)), if_neg (fun h => h1 h.2), if_neg h1]
theorem pick_zk (a b c d l0 l1 l2 l3 : Int) (i : Nat) : pick4 (zk a l0) (zk b l1) (zk c l2) (zk d l3) i = zk (qI a b c d i) (qI l0 l1 l2 l3 i) := by
  unfold pick4 qI
  repeat' split
  all_goals rfl
end Go.Proofs.YtgijoikmggjopaaDoor

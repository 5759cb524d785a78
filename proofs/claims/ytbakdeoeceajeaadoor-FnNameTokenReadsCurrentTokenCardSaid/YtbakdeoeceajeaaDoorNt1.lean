/- FnNameTokenReadsCurrentToken: small contracts. -/
import Derived.Test.YtbakdeoeceajeaaDoorST
import Derived.Test.YtbakdeoeceajeaaDoorAn
import Derived.Test.YtbakdeoeceajeaaDoorMk
import Derived.Test.YtbakdeoeceajeaaDoorSeg
set_option linter.unusedVariables false
set_option linter.unusedSimpArgs false
namespace Go.Proofs.YtbakdeoeceajeaaDoor
open Go.RowKit
def Gv (v : Value) (w : World) (e : Ending) (w' : World) : Prop := e = .returned v ∧ Below w.heap.size w w'
def txR (r : Int) : List UInt8 := if r = 0 then [97] else if r = 1 then [42] else if r = 2 then [124] else if r = 3 then [38] else if r = 4 then [32] else if r = 5 then [46] else if r = 6 then [44] else if r = 7 then [123] else if r = 8 then [62] else if r = 9 then [43] else if r = 10 then [126] else if r = 12 then [98, 99] else if r = 13 then [120, 45, 121] else [41]
def kdR (r : Int) : Int := if r = 0 then 29 else if r = 1 then 13 else if r = 2 then 14 else if r = 3 then 12 else if r = 4 then 38 else if r = 5 then 17 else if r = 6 then 10 else if r = 7 then 31 else if r = 8 then 20 else if r = 9 then 23 else if r = 10 then 25 else if r = 12 then 29 else if r = 13 then 29 else 8
/-- the text and the kind of a code -/
def txN (c : Int) : ByteArray := ⟨(txR (c % 14)).toArray⟩
def kdN (c : Int) : Int := kdR (c % 14)
theorem c14 (c : Int) : c % 14 = 0 ∨ c % 14 = 1 ∨ c % 14 = 2 ∨ c % 14 = 3 ∨ c % 14 = 4 ∨ c % 14 = 5 ∨ c % 14 = 6 ∨ c % 14 = 7 ∨ c % 14 = 8 ∨ c % 14 = 9 ∨ c % 14 = 10 ∨ c % 14 = 11 ∨ c % 14 = 12 ∨ c % 14 = 13 := by omega
set_option maxRecDepth 100000 in
set_option maxHeartbeats 4000000 in
theorem tx_c (c : Int) (w : World) (h0 : 0 ≤ c) (h1 : c ≤ 255) : Calls Tryd.prog 10 #[.int .u8 c] w (Gv (.string (txN c)) w) := by
  rcases c14 c with h | h | h | h | h | h | h | h | h | h | h | h | h | h
  all_goals
    unfold txN
    rw [h]
    go_enter Tryd.func10, Tryd.ntmps10
    go_wp2
    go_ret
    exact ⟨rfl, Below.refl _ _⟩
set_option maxRecDepth 100000 in
set_option maxHeartbeats 4000000 in
theorem kd_c (c : Int) (w : World) (h0 : 0 ≤ c) (h1 : c ≤ 255) : Calls Tryd.prog 11 #[.int .u8 c] w (Gv (.int .u8 (kdN c)) w) := by
  rcases c14 c with h | h | h | h | h | h | h | h | h | h | h | h | h | h
  all_goals
    unfold kdN
    rw [h]
    go_enter Tryd.func11, Tryd.ntmps11
    go_wp2
    go_ret
    exact ⟨rfl, Below.refl _ _⟩
set_option maxRecDepth 100000 in
set_option maxHeartbeats 4000000 in
theorem id_c (c : Int) (w : World) (h0 : 0 ≤ c) (h1 : c ≤ 255) : Calls Tryd.prog 12 #[.int .u8 c] w (fun e w' => ∃ b, Gv (.bool b) w e w') := by
  rcases c14 c with h | h | h | h | h | h | h | h | h | h | h | h | h | h
  all_goals
    go_enter Tryd.func12, Tryd.ntmps12
    go_wp2
    go_ret
    exact ⟨_, rfl, Below.refl _ _⟩
set_option maxRecDepth 100000 in
set_option maxHeartbeats 4000000 in
theorem by4_yes (A : Option Addr) (n c : Nat) (a : Int) (w : World) (hn : n ≤ 1048576) : Calls Tryd.prog 4 #[.slice A n c, .int .u32 a] w (Gv (.bool true) w) := by
  have h1 : ¬ ((1048576 : Int) < n) := by omega
  have h2 : (0 : Int) ≤ n := by omega
  go_enter Tryd.func4, Tryd.ntmps4
  go_wp2
  go_ret
  exact ⟨rfl, Below.refl _ _⟩
set_option maxRecDepth 100000 in
set_option maxHeartbeats 4000000 in
theorem by4_no (A : Option Addr) (n c : Nat) (a : Int) (w : World) (hn : 1048576 < n) : Calls Tryd.prog 4 #[.slice A n c, .int .u32 a] w (Gv (.bool false) w) := by
  have h1 : (1048576 : Int) < n := by omega
  go_enter Tryd.func4, Tryd.ntmps4
  go_wp2
  go_ret
  exact ⟨rfl, Below.refl _ _⟩
set_option maxRecDepth 100000 in
set_option maxHeartbeats 4000000 in
theorem end_c (a n : Nat) (w : World) (h : a + n ≤ 1048576) : Calls Tryd.prog 40 #[.agg #[.int .i32 a, .int .i32 n]] w (Gv (.int .i32 ((a + n : Nat) : Int)) w) := by
  have h1 : (0 : Int) ≤ a := by omega
  have h2 : (0 : Int) ≤ n := by omega
  have h3 : (a : Int) + n ≤ 1048576 := by omega
  go_enter Tryd.func40, Tryd.ntmps40
  go_wp2
  go_ret
  exact ⟨by simp, ba _ _⟩
set_option maxRecDepth 100000 in
set_option maxHeartbeats 4000000 in
theorem dec_a (w : World) : Calls Tryd.prog 41 #[.string ⟨#[97]⟩] w (Gv (.string ⟨#[97]⟩) w) := by
  have g : ∀ i : Nat, i < 1 → ∃ x : Int, ((⟨#[97]⟩ : ByteArray)[i]?.map (fun b => (b.toNat : Int))) = some x ∧ (x == 92) = false ∧ (x == 0) = false := by decide
  go_enter Tryd.func41, Tryd.ntmps41
  go_wp2
  go_loopw [3] (fun v wr => ∃ i : Nat, i ≤ 1 ∧ v = .int .i64 i ∧ wr = w) (fun v _ => 1 - (intOf v).toNat)
  case atStart => exact ⟨0, by omega, rfl, rfl⟩
  case round =>
    obtain ⟨i, hi, rfl, rfl⟩ := hrel
    rcases (by omega : i = 0 ∨ i = 1) with rfl | rfl
    · go_wp2
      go_roundw
      case rel => exact ⟨1, by omega, by go_num, by first | rfl | trivial⟩
      case measure => simp [intOf]
    · go_wp2
      go_ret
      exact ⟨rfl, Below.refl _ _⟩
set_option maxRecDepth 100000 in
set_option maxHeartbeats 4000000 in
theorem dec_bc (w : World) : Calls Tryd.prog 41 #[.string ⟨#[98, 99]⟩] w (Gv (.string ⟨#[98, 99]⟩) w) := by
  have g : ∀ i : Nat, i < 2 → ∃ x : Int, ((⟨#[98, 99]⟩ : ByteArray)[i]?.map (fun b => (b.toNat : Int))) = some x ∧ (x == 92) = false ∧ (x == 0) = false := by decide
  go_enter Tryd.func41, Tryd.ntmps41
  go_wp2
  go_loopw [3] (fun v wr => ∃ i : Nat, i ≤ 2 ∧ v = .int .i64 i ∧ wr = w) (fun v _ => 2 - (intOf v).toNat)
  case atStart => exact ⟨0, by omega, rfl, rfl⟩
  case round =>
    obtain ⟨i, hi, rfl, rfl⟩ := hrel
    rcases (by omega : i = 0 ∨ i = 1 ∨ i = 2) with rfl | rfl | rfl
    · go_wp2
      go_roundw
      case rel => exact ⟨1, by omega, by go_num, by first | rfl | trivial⟩
      case measure => simp [intOf]
    · go_wp2
      go_roundw
      case rel => exact ⟨2, by omega, by go_num, by first | rfl | trivial⟩
      case measure => simp [intOf]
    · go_wp2
      go_ret
      exact ⟨rfl, Below.refl _ _⟩
set_option maxRecDepth 100000 in
set_option maxHeartbeats 4000000 in
theorem dec_xy (w : World) : Calls Tryd.prog 41 #[.string ⟨#[120, 45, 121]⟩] w (Gv (.string ⟨#[120, 45, 121]⟩) w) := by
  have g : ∀ i : Nat, i < 3 → ∃ x : Int, ((⟨#[120, 45, 121]⟩ : ByteArray)[i]?.map (fun b => (b.toNat : Int))) = some x ∧ (x == 92) = false ∧ (x == 0) = false := by decide
  go_enter Tryd.func41, Tryd.ntmps41
  go_wp2
  go_loopw [3] (fun v wr => ∃ i : Nat, i ≤ 3 ∧ v = .int .i64 i ∧ wr = w) (fun v _ => 3 - (intOf v).toNat)
  case atStart => exact ⟨0, by omega, rfl, rfl⟩
  case round =>
    obtain ⟨i, hi, rfl, rfl⟩ := hrel
    rcases (by omega : i = 0 ∨ i = 1 ∨ i = 2 ∨ i = 3) with rfl | rfl | rfl | rfl
    · go_wp2
      go_roundw
      case rel => exact ⟨1, by omega, by go_num, by first | rfl | trivial⟩
      case measure => simp [intOf]
    · go_wp2
      go_roundw
      case rel => exact ⟨2, by omega, by go_num, by first | rfl | trivial⟩
      case measure => simp [intOf]
    · go_wp2
      go_roundw
      case rel => exact ⟨3, by omega, by go_num, by first | rfl | trivial⟩
      case measure => simp [intOf]
    · go_wp2
      go_ret
      exact ⟨rfl, Below.refl _ _⟩
set_option maxRecDepth 100000 in
set_option maxHeartbeats 4000000 in
theorem dt_plain (C : ByteArray) (a n : Nat) (k : Int) (w : World) (h : a + n ≤ C.size) (hC : C.size ≤ 1048576) (h1 : (k == 29) = false) (h2 : (k == 26) = false) (h3 : (k == 1) = false) (h4 : (k == 28) = false) (h5 : (k == 27) = false) (h6 : (k == 36) = false) (h7 : (k == 37) = false) : Calls Tryd.prog 29 #[.agg #[.int .i32 a, .int .i32 n, .int .u16 0, .int .u8 k, .int .u8 0], .string C] w (Gv (.string (C.extract a (a + n))) w) := by
  obtain ⟨b, hb⟩ : ∃ b, b = a + n := ⟨_, rfl⟩
  have E : Hid (∀ w, Calls Tryd.prog 40 #[.agg #[.int .i32 a, .int .i32 n]] w (Gv (.int .i32 (b : Int)) w)) := Lib.hid (fun w => by rw [hb]; exact end_c a n w (by omega))
  rw [← hb] at h ⊢
  have a0 : (0 : Int) ≤ a := by omega
  have a1 : (0 : Int) ≤ (b : Int) := by omega
  have a2 : (a : Int) ≤ (b : Int) := by omega
  have a3 : (b : Int) ≤ C.size := by omega
  have sl : ∀ W, (Instr.sliceAt 9 (.string C) (some (.int .i32 (a : Int))) (some (.int .i32 (b : Int))) none).run Tryd.prog W = .ok (.string (C.extract a b)) W := fun W => by
    rw [run_sliceAt_string W 9 _ _ _ _ Tryd.underlying9, run_slice_string W 9 C .i32 .i32 _ _ Tryd.underlying9 a0 a2 a3]
    simp
  replace hb := Lib.hid hb
  go_enter Tryd.func29, Tryd.ntmps29
  go_upto_region 1 with fail
  have y0 : ∀ d os, (Sort.grow (redrawn (w.alloc (.cells #[.int .i32 a, .int .i32 n, .int .u16 0, .int .u8 k, .int .u8 0] 47)) d) os).cell? ⟨w.heap.size, 0, none⟩ = some (.int .i32 a) := fun d os => cell_regrown (by simp [go_sem]) d os
  have y1 : ∀ d os, (Sort.grow (redrawn (w.alloc (.cells #[.int .i32 a, .int .i32 n, .int .u16 0, .int .u8 k, .int .u8 0] 47)) d) os).cell? ⟨w.heap.size, 1, none⟩ = some (.int .i32 n) := fun d os => cell_regrown (by simp [go_sem]) d os
  refine drawn_tail 8 (by kernel_rfl) (by kernel_rfl) (by kernel_rfl) (fun Q hQ => ?_)
  simp only [List.take_succ_cons, List.take_zero, List.drop_succ_cons, List.drop_zero]
  repeat (quiet_step (exact Calls.regrown_of (E.out _)))
  refine wpQuiet_nil ?_
  intro W2 hw
  have b2 : Hid (Below w.heap.size w W2) := Lib.hid (by
    obtain ⟨⟨d, os⟩, rfl⟩ := hw
    exact (ba w _).trans ((below_regrown _ d os).mono (by simp)))
  have k3 : W2.cell? ⟨w.heap.size, 3, none⟩ = some (.int .u8 k) := by
    obtain ⟨⟨d, os⟩, rfl⟩ := hw
    exact cell_regrown (by simp [go_sem]) d os
  clear hw y0 y1
  go_wp2
  go_ret
  exact ⟨rfl, b2.out⟩
set_option maxRecDepth 100000 in
set_option maxHeartbeats 4000000 in
theorem dt_id (C : ByteArray) (a n : Nat) (R : ByteArray) (w : World) (h : a + n ≤ C.size) (hC : C.size ≤ 1048576) (he : C.extract a (a + n) = R) (hR : ∀ w, Calls Tryd.prog 41 #[.string R] w (Gv (.string R) w)) : Calls Tryd.prog 29 #[.agg #[.int .i32 a, .int .i32 n, .int .u16 0, .int .u8 29, .int .u8 0], .string C] w (Gv (.string (R)) w) := by
  obtain ⟨b, hb⟩ : ∃ b, b = a + n := ⟨_, rfl⟩
  have E : Hid (∀ w, Calls Tryd.prog 40 #[.agg #[.int .i32 a, .int .i32 n]] w (Gv (.int .i32 (b : Int)) w)) := Lib.hid (fun w => by rw [hb]; exact end_c a n w (by omega))
  rw [← hb] at h he
  have a0 : (0 : Int) ≤ a := by omega
  have a1 : (0 : Int) ≤ (b : Int) := by omega
  have a2 : (a : Int) ≤ (b : Int) := by omega
  have a3 : (b : Int) ≤ C.size := by omega
  have sl : ∀ W, (Instr.sliceAt 9 (.string C) (some (.int .i32 (a : Int))) (some (.int .i32 (b : Int))) none).run Tryd.prog W = .ok (.string (C.extract a b)) W := fun W => by
    rw [run_sliceAt_string W 9 _ _ _ _ Tryd.underlying9, run_slice_string W 9 C .i32 .i32 _ _ Tryd.underlying9 a0 a2 a3]
    simp
  replace hb := Lib.hid hb
  go_enter Tryd.func29, Tryd.ntmps29
  go_upto_region 1 with fail
  have y0 : ∀ d os, (Sort.grow (redrawn (w.alloc (.cells #[.int .i32 a, .int .i32 n, .int .u16 0, .int .u8 29, .int .u8 0] 47)) d) os).cell? ⟨w.heap.size, 0, none⟩ = some (.int .i32 a) := fun d os => cell_regrown (by simp [go_sem]) d os
  have y1 : ∀ d os, (Sort.grow (redrawn (w.alloc (.cells #[.int .i32 a, .int .i32 n, .int .u16 0, .int .u8 29, .int .u8 0] 47)) d) os).cell? ⟨w.heap.size, 1, none⟩ = some (.int .i32 n) := fun d os => cell_regrown (by simp [go_sem]) d os
  refine drawn_tail 8 (by kernel_rfl) (by kernel_rfl) (by kernel_rfl) (fun Q hQ => ?_)
  simp only [List.take_succ_cons, List.take_zero, List.drop_succ_cons, List.drop_zero]
  repeat (quiet_step (exact Calls.regrown_of (E.out _)))
  refine wpQuiet_nil ?_
  intro W2 hw
  have b2 : Hid (Below w.heap.size w W2) := Lib.hid (by
    obtain ⟨⟨d, os⟩, rfl⟩ := hw
    exact (ba w _).trans ((below_regrown _ d os).mono (by simp)))
  have k3 : W2.cell? ⟨w.heap.size, 3, none⟩ = some (.int .u8 29) := by
    obtain ⟨⟨d, os⟩, rfl⟩ := hw
    exact cell_regrown (by simp [go_sem]) d os
  clear hw y0 y1
  replace hR := Lib.hid hR
  rw [he] at sl
  go_wp2_with (go_at_call 41; (with_reducible refine (hR.out _).mono ?_); rintro e W3 ⟨rfl, b3⟩; replace b3 := Lib.hid b3)
  go_ret
  exact ⟨rfl, b2.out.trans (b3.out.mono b2.out.size)⟩
theorem dt_c (c : Int) (C : ByteArray) (a : Nat) (w : World) (h : a + (txN c).size ≤ C.size) (hC : C.size ≤ 1048576) (he : C.extract a (a + (txN c).size) = txN c) : Calls Tryd.prog 29 #[.agg #[.int .i32 a, .int .i32 (txN c).size, .int .u16 0, .int .u8 (kdN c), .int .u8 0], .string C] w (Gv (.string (txN c)) w) := by
  rcases c14 c with hc | hc | hc | hc | hc | hc | hc | hc | hc | hc | hc | hc | hc | hc
  · have ek : kdN c = 29 := by unfold kdN; rw [hc]; rfl
    rw [ek]
    have et : txN c = ⟨#[97]⟩ := by unfold txN; rw [hc]; rfl
    exact dt_id C a (txN c).size (txN c) w h hC he (fun w => by rw [et]; exact dec_a w)
  · have ek : kdN c = 13 := by unfold kdN; rw [hc]; rfl
    rw [ek]
    have := dt_plain C a (txN c).size 13 w h hC rfl rfl rfl rfl rfl rfl rfl
    rwa [he] at this
  · have ek : kdN c = 14 := by unfold kdN; rw [hc]; rfl
    rw [ek]
    have := dt_plain C a (txN c).size 14 w h hC rfl rfl rfl rfl rfl rfl rfl
    rwa [he] at this
  · have ek : kdN c = 12 := by unfold kdN; rw [hc]; rfl
    rw [ek]
    have := dt_plain C a (txN c).size 12 w h hC rfl rfl rfl rfl rfl rfl rfl
    rwa [he] at this
  · have ek : kdN c = 38 := by unfold kdN; rw [hc]; rfl
    rw [ek]
    have := dt_plain C a (txN c).size 38 w h hC rfl rfl rfl rfl rfl rfl rfl
    rwa [he] at this
  · have ek : kdN c = 17 := by unfold kdN; rw [hc]; rfl
    rw [ek]
    have := dt_plain C a (txN c).size 17 w h hC rfl rfl rfl rfl rfl rfl rfl
    rwa [he] at this
  · have ek : kdN c = 10 := by unfold kdN; rw [hc]; rfl
    rw [ek]
    have := dt_plain C a (txN c).size 10 w h hC rfl rfl rfl rfl rfl rfl rfl
    rwa [he] at this
  · have ek : kdN c = 31 := by unfold kdN; rw [hc]; rfl
    rw [ek]
    have := dt_plain C a (txN c).size 31 w h hC rfl rfl rfl rfl rfl rfl rfl
    rwa [he] at this
  · have ek : kdN c = 20 := by unfold kdN; rw [hc]; rfl
    rw [ek]
    have := dt_plain C a (txN c).size 20 w h hC rfl rfl rfl rfl rfl rfl rfl
    rwa [he] at this
  · have ek : kdN c = 23 := by unfold kdN; rw [hc]; rfl
    rw [ek]
    have := dt_plain C a (txN c).size 23 w h hC rfl rfl rfl rfl rfl rfl rfl
    rwa [he] at this
  · have ek : kdN c = 25 := by unfold kdN; rw [hc]; rfl
    rw [ek]
    have := dt_plain C a (txN c).size 25 w h hC rfl rfl rfl rfl rfl rfl rfl
    rwa [he] at this
  · have ek : kdN c = 8 := by unfold kdN; rw [hc]; rfl
    rw [ek]
    have := dt_plain C a (txN c).size 8 w h hC rfl rfl rfl rfl rfl rfl rfl
    rwa [he] at this
  · have ek : kdN c = 29 := by unfold kdN; rw [hc]; rfl
    rw [ek]
    have et : txN c = ⟨#[98, 99]⟩ := by unfold txN; rw [hc]; rfl
    exact dt_id C a (txN c).size (txN c) w h hC he (fun w => by rw [et]; exact dec_bc w)
  · have ek : kdN c = 29 := by unfold kdN; rw [hc]; rfl
    rw [ek]
    have et : txN c = ⟨#[120, 45, 121]⟩ := by unfold txN; rw [hc]; rfl
    exact dt_id C a (txN c).size (txN c) w h hC he (fun w => by rw [et]; exact dec_xy w)
end Go.Proofs.YtbakdeoeceajeaaDoor

/- FnNameTokenReadsCurrentToken: the law's walk. -/
import Derived.Test.YtbakdeoeceajeaaDoorNt5
set_option linter.unusedVariables false
set_option linter.unusedSimpArgs false
namespace Go.Proofs.YtbakdeoeceajeaaDoor
open Go.RowKit
theorem cat_at (f : Nat → Int) (i n : Nat) (h : i < n) : (⟨(catL f n).toArray⟩ : ByteArray).extract (off f i) (off f i + (txN (f i)).size) = txN (f i) ∧ off f i + (txN (f i)).size ≤ (⟨(catL f n).toArray⟩ : ByteArray).size := by
  obtain ⟨r, hr⟩ := cat_more f (i + 1) n h
  rw [catL] at hr
  have hz := tx_size (f i)
  have hs : (⟨(catL f n).toArray⟩ : ByteArray).size = (catL f n).length := by show (catL f n).toArray.size = _; simp
  rw [hs, hz, hr]
  constructor
  · apply ByteArray.ext
    show ((⟨((catL f i ++ txR (f i % 14)) ++ r).toArray⟩ : ByteArray).extract _ _).data = (txR (f i % 14)).toArray
    rw [ByteArray.data_extract]
    apply Array.ext'
    simp [off, List.take_append, List.drop_append]
  · simp [off]
theorem cat_len (f : Nat → Int) (n : Nat) (h : n ≤ 4096) : (⟨(catL f n).toArray⟩ : ByteArray).size ≤ 1048576 := by
  show (catL f n).toArray.size ≤ _
  have := off_le f n
  unfold off at this
  simp
  omega
set_option maxRecDepth 100000 in
set_option maxHeartbeats 4000000 in
theorem law_no (A : Option Addr) (n c : Nat) (a : Int) (w : World) (hn : 1048576 < n) : Calls Tryd.prog 3 #[.slice A n c, .int .u32 a] w (Gv (.bool true) w) := by
  have C4 := Lib.hid (by4_no A n c a w hn)
  go_enter Tryd.func3, Tryd.ntmps3
  go_wp2_with (go_at_call 4; (with_reducible refine C4.out.mono ?_); rintro e w2 ⟨rfl, b2⟩; replace b2 := Lib.hid b2)
  go_ret
  exact ⟨rfl, b2.out⟩
set_option maxRecDepth 100000 in
set_option maxHeartbeats 4000000 in
theorem law_big (A : Option Addr) (n c : Nat) (a : Int) (w : World) (hn : n ≤ 1048576) (h4 : 4096 < n) : Calls Tryd.prog 3 #[.slice A n c, .int .u32 a] w (Gv (.bool true) w) := by
  have C4 := Lib.hid (by4_yes A n c a w hn)
  have h5 : (4096 : Int) < n := by omega
  go_enter Tryd.func3, Tryd.ntmps3
  go_wp2_with (go_at_call 4; (with_reducible refine C4.out.mono ?_); rintro e w2 ⟨rfl, b2⟩; replace b2 := Lib.hid b2)
  go_ret
  exact ⟨rfl, b2.out⟩
set_option maxRecDepth 100000 in
set_option maxHeartbeats 4000000 in
theorem law_zero (A : Option Addr) (c : Nat) (a : Int) (w : World) : Calls Tryd.prog 3 #[.slice A 0 c, .int .u32 a] w (Gv (.bool true) w) := by
  have C4 := Lib.hid (by4_yes A 0 c a w (by omega))
  go_enter Tryd.func3, Tryd.ntmps3
  go_wp2_with (go_at_call 4; (with_reducible refine C4.out.mono ?_); rintro e w2 ⟨rfl, b2⟩; replace b2 := Lib.hid b2)
  go_ret
  exact ⟨rfl, b2.out⟩
set_option maxRecDepth 100000 in
set_option maxHeartbeats 4000000 in
theorem law_c (A : Option Addr) (n c : Nat) (f : Nat → Int) (a : Int) (w : World) (hn : n ≤ 4096) (hp : 0 < n) (a0 : 0 ≤ a) (a1 : a ≤ 4294967295) (h : Row .u8 w A n f) (hf : ∀ i, i < n → 0 ≤ f i ∧ f i ≤ 255) : Calls Tryd.prog 3 #[.slice A n c, .int .u32 a] w (Gv (.bool true) w) := by
  have C4 := Lib.hid (by4_yes A n c a w (by omega))
  have n0 : (0 : Int) < n := by omega
  have n1 : (n : Int) ≤ 4096 := by omega
  have H := Lib.hid h
  have HF := Lib.hid hf
  clear h hf
  go_enter Tryd.func3, Tryd.ntmps3
  go_upto_region 5 with (go_at_call 4; (with_reducible refine C4.out.mono ?_); rintro e w2 ⟨rfl, b2⟩; replace b2 := Lib.hid b2)
  have C5 := Lib.hid (reach_c A n c f w2 hn (H.out.after b2.out) HF.out)
  go_upto_region 7 with (go_at_call 5; (with_reducible refine C5.out.mono ?_); rintro e w3 ⟨b, rfl, b3⟩; replace b3 := Lib.hid b3; cases b)
  any_goals (go_ret; exact ⟨rfl, b2.out.trans (b3.out.mono b2.out.size)⟩)
  have C6 := Lib.hid (build_c A n c f w3 hn ((H.out.after b2.out).after b3.out) HF.out)
  have wn : IntKind.u32.wrap (n : Int) = n := by rw [IntKind.wrap_u32]; omega
  go_upto_region 8 with (go_at_call 6; (with_reducible refine C6.out.mono ?_); rintro e w4 ⟨TB, K, rfl, hTok, hOff, b4⟩; replace b4 := Lib.hid b4; replace hTok := Lib.hid hTok; replace hOff := Lib.hid hOff)
  go_upto_region 9 with fail
  obtain ⟨i, hi⟩ : ∃ i : Nat, a % (n : Int) = i := ⟨(a % (n : Int)).toNat, by have := Int.emod_nonneg a (show (n : Int) ≠ 0 by omega); omega⟩
  have hin : i < n := by have := Int.emod_lt_of_pos a n0; omega
  have hw : wrap64 (a % (n : Int)) = i := by rw [hi]; unfold wrap64; omega
  rw [hw]
  clear hw hi
  have C7 := Lib.hid (new7_c ⟨(catL f n).toArray⟩ (some ⟨TB, 0, none⟩) n n i w4)
  go_upto_region 10 with (go_at_call 7; (with_reducible refine C7.out.mono ?_); rintro e w5 ⟨P, rfl, hP, p9, p16, p42, b5⟩; replace b5 := Lib.hid b5)
  obtain ⟨he, hz⟩ := cat_at f i n hin
  have hC := cat_len f n hn
  have ps5 : Hid (PsC w5 P TB n n i ⟨(catL f n).toArray⟩ f) := Lib.hid ⟨p9, p16, p42, (hTok.out i hin).after b5.out⟩
  clear p9 p16 p42
  have C8 := Lib.hid (nt8_c P TB n n i ⟨(catL f n).toArray⟩ f w5 ps5.out hin hn hz hC he)
  clear he hz hC
  go_upto_region 11 with (first | (go_at_call 8; (with_reducible refine C8.out.mono ?_); rintro e w6 ⟨rfl, b6⟩; replace b6 := Lib.hid b6) | ((with_reducible refine wpList_at (o := ⟨none, .store 38 (.tmp 10) (.tmp 44), _, _, _, _⟩) ?_); refine wpList_store_room (op := ⟨none, .store 38 (.tmp 10) (.tmp 44), _, _, _, _⟩) rfl 38 (.tmp 10) (.tmp 44) rfl w6.heap.size 0 4 (ntL (txN (f i)) (off f i) (txN (f i)).size (kdN (f i))) (Room.newN _ _ rfl _) (by show 0 + 4 ≤ 4; omega) rfl rfl (i38 _ _ _ _) (ntL_one _ _ _ _) ?_; intro V hV; replace hV := Lib.hid hV))
  obtain ⟨d0, d1, d2, d3⟩ := seg4 (Room.newN _ _ rfl _) hV.out
  have bV : Hid (Below w6.heap.size w6 V) := Lib.hid ((ba w6 _).trans (below_set hV.out (Nat.le_refl _) (by simp)))
  clear hV
  have z2 := b2.out.size
  have z3 := b3.out.size
  have z4 := b4.out.size
  have z5 := b5.out.size
  have z6 := b6.out.size
  have zV := bV.out.size
  have B4 : Hid (Below w.heap.size w w4) := Lib.hid (b2.out.trans ((b3.out.mono (by omega)).trans (b4.out.mono (by omega))))
  have B4V : Hid (Below w4.heap.size w4 V) := Lib.hid (b5.out.trans ((b6.out.mono (by omega)).trans (bV.out.mono (by omega))))
  have BV : Hid (Below w.heap.size w V) := Lib.hid (B4.out.trans (B4V.out.mono (by omega)))
  have psV := Lib.hid ((ps5.out.after b6.out).after bV.out)
  have C9 := Lib.hid (ix_c P TB n n i _ f V psV.out hin hn)
  have hk := ac B4V.out (hOff.out i hin)
  obtain ⟨S, hS⟩ : ∃ x, w6.heap.size = x := ⟨_, rfl⟩
  rw [hS] at d0 d1 d2 d3 ⊢
  clear hS b2 b3 b4 b5 b6 ps5 psV hTok hOff B4 B4V bV C4 C5 C6 C7 C8
  obtain ⟨q0, q1⟩ := HF.out i hin
  have ho := off_le f i
  have ht := tx_le (f i)
  obtain ⟨ex, rfl, dx⟩ := (H.out.after BV.out) i hin
  have i0 : (0 : Int) ≤ i := by omega
  have i1 : (i : Int) < n := by omega
  have i2 : (i : Int) < (n : Int) + 1 := by omega
  have C10 := Lib.hid (fun w => tx_c (f i) w q0 q1)
  have C11 := Lib.hid (fun w => kd_c (f i) w q0 q1)
  have wL : IntKind.i32.wrap (off f i : Int) = off f i := wrap32 (by omega) (by omega)
  have wS : IntKind.i32.wrap ((txN (f i)).size : Int) = (txN (f i)).size := wrap32 (by omega) (by omega)
  go_upto_region 13 with (go_at_call 9; (with_reducible refine C9.out.mono ?_); rintro e w7 ⟨rfl, b7⟩; replace d0 := ac b7 d0; replace d1 := ac b7 d1; replace d2 := ac b7 d2; replace d3 := ac b7 d3; replace dx := ac b7 dx; replace hk := ac b7 hk; replace BV := Lib.hid (BV.out.trans (b7.mono BV.out.size)); clear b7)
  go_upto_region 14 with (go_at_call 10; (with_reducible refine (C10.out _).mono ?_); rintro e w8 ⟨rfl, b8⟩; replace d0 := ac b8 d0; replace d1 := ac b8 d1; replace d2 := ac b8 d2; replace d3 := ac b8 d3; replace dx := ac b8 dx; replace hk := ac b8 hk; replace BV := Lib.hid (BV.out.trans (b8.mono BV.out.size)); clear b8)
  have y0 := fun d os => cell_regrown d0 d os
  have y1 := fun d os => cell_regrown d1 d os
  have y2 := fun d os => cell_regrown d2 d os
  have y3 := fun d os => cell_regrown d3 d os
  have yx := fun d os => cell_regrown dx d os
  have yk := fun d os => cell_regrown hk d os
  refine drawn_tail 35 (by kernel_rfl) (by kernel_rfl) (by kernel_rfl) (fun Q hQ => ?_)
  simp only [List.take_succ_cons, List.take_zero, List.drop_succ_cons, List.drop_zero]
  repeat (quiet_step (exact Calls.regrown_of (C11.out _)))
  refine wpQuiet_nil ?_
  intro W9 hw
  have b9 : Hid (Below w8.heap.size w8 W9) := Lib.hid (by
    obtain ⟨⟨d, os⟩, rfl⟩ := hw
    exact below_regrown _ d os)
  clear hw y0 y1 y2 y3 yx yk
  go_wp2
  go_ret
  exact ⟨by simp, BV.out.trans (b9.out.mono BV.out.size)⟩
theorem all_c (A : Option Addr) (n c : Nat) (f : Nat → Int) (a : Int) (w : World) (a0 : 0 ≤ a) (a1 : a ≤ 4294967295) (h : Row .u8 w A n f) (hf : ∀ i, i < n → 0 ≤ f i ∧ f i ≤ 255) : Calls Tryd.prog 3 #[.slice A n c, .int .u32 a] w (Gv (.bool true) w) := by
  by_cases h1 : 1048576 < n
  · exact law_no A n c a w h1
  by_cases h2 : 4096 < n
  · exact law_big A n c a w (by omega) h2
  by_cases h3 : n = 0
  · subst h3; exact law_zero A c a w
  exact law_c A n c f a w (by omega) (by omega) a0 a1 h hf
end Go.Proofs.YtbakdeoeceajeaaDoor

/- FnNameTokenReadsCurrentToken: the token under the cursor. -/
import Derived.Test.YtbakdeoeceajeaaDoorNt3
import Derived.Test.YtbakdeoeceajeaaDoorNt4
set_option linter.unusedVariables false
set_option linter.unusedSimpArgs false
namespace Go.Proofs.YtbakdeoeceajeaaDoor
open Go.RowKit
structure PsC (w : World) (P TB n c i : Nat) (C : ByteArray) (f : Nat → Int) : Prop where
  c9 : w.cell? ⟨P, 9, none⟩ = some (.string C)
  c16 : w.cell? ⟨P, 16, none⟩ = some (.slice (some ⟨TB, 0, none⟩) n c)
  c42 : w.cell? ⟨P, 42, none⟩ = some (.int .i64 i)
  tok : Seg w TB (i * 5) (tk5 f i)
theorem PsC.after {w w' : World} {P TB n c i : Nat} {C : ByteArray} {f : Nat → Int} (h : PsC w P TB n c i C f) (hb : Below w.heap.size w w') : PsC w' P TB n c i C f :=
  ⟨ac hb h.c9, ac hb h.c16, ac hb h.c42, h.tok.after hb⟩
theorem seg5 {x0 x1 x2 x3 x4 : Value} {w V : World} {b : Nat} (h : Room w b 5) (hV : V = w.setCells b 0 [x0, x1, x2, x3, x4]) : V.cell? ⟨b, 0, none⟩ = some x0 ∧ V.cell? ⟨b, 1, none⟩ = some x1 ∧ V.cell? ⟨b, 2, none⟩ = some x2 ∧ V.cell? ⟨b, 3, none⟩ = some x3 ∧ V.cell? ⟨b, 4, none⟩ = some x4 := by
  subst hV
  have s : Seg (w.setCells b 0 [x0, x1, x2, x3, x4]) b 0 [x0, x1, x2, x3, x4] := Seg.put h (by show 0 + 5 ≤ 5; omega)
  exact ⟨s 0 _ rfl, s 1 _ rfl, s 2 _ rfl, s 3 _ rfl, s 4 _ rfl⟩
theorem seg4 {x0 x1 x2 x3 : Value} {w V : World} {b : Nat} (h : Room w b 4) (hV : V = w.setCells b 0 [x0, x1, x2, x3]) : V.cell? ⟨b, 0, none⟩ = some x0 ∧ V.cell? ⟨b, 1, none⟩ = some x1 ∧ V.cell? ⟨b, 2, none⟩ = some x2 ∧ V.cell? ⟨b, 3, none⟩ = some x3 := by
  subst hV
  have s : Seg (w.setCells b 0 [x0, x1, x2, x3]) b 0 [x0, x1, x2, x3] := Seg.put h (by show 0 + 4 ≤ 4; omega)
  exact ⟨s 0 _ rfl, s 1 _ rfl, s 2 _ rfl, s 3 _ rfl⟩
theorem below_set {B : Nat} {w V : World} {b : Nat} {vs : List Value} (hV : V = w.setCells b 0 vs) (hb : B ≤ b) (hB : B ≤ w.heap.size) : Below B w V := by
  rw [hV]
  exact (Only.setCells (S := fun z => z = b) b rfl _ _ (Only.refl _)).below B hB (fun z e => by omega)
abbrev ntL (t : ByteArray) (a n k : Int) : List Value := [.string t, .int .i32 a, .int .i32 n, .int .u8 k]
theorem i38 (t : ByteArray) (a n k : Int) : (Tryd.prog.info? 38).map (·.size) = some (ntL t a n k).length := (by kernel_rfl : (Tryd.prog.info? 38).map (·.size) = some 4)
theorem ntL_one (t : ByteArray) (a n k : Int) : ∀ v ∈ ntL t a n k, v.oneCell' = true := by
  intro v hv
  simp only [List.mem_cons, List.not_mem_nil, or_false] at hv
  rcases hv with rfl | rfl | rfl | rfl <;> rfl
set_option maxRecDepth 100000 in
set_option maxHeartbeats 4000000 in
theorem at_c (P TB n c i : Nat) (C : ByteArray) (f : Nat → Int) (w : World) (h : PsC w P TB n c i C f) (hi : i < n) (hn : n ≤ 4096) : Calls Tryd.prog 28 #[.pointer (some ⟨P, 0, none⟩), .int .i64 i] w (Gv (.agg (tk5 f i).toArray) w) := by
  have i0 : (0 : Int) ≤ i := by omega
  have i1 : (i : Int) < n := by omega
  have H := Lib.hid h
  clear h
  go_enter Tryd.func28, Tryd.ntmps28
  go_upto_region 1 with fail
  refine wp_gen (fun W0 hW => ?_)
  have b0 : Hid (Below w.heap.size w W0) := Lib.hid (by rw [hW]; exact ba _ _)
  have r0 : Hid (Room W0 w.heap.size 5) := Lib.hid (by rw [hW]; exact Room.newN _ _ rfl _)
  have lt0 : w.heap.size < W0.heap.size := by rw [hW]; simp
  clear hW
  have h0 := Lib.hid (H.out.after b0.out)
  obtain ⟨S, hS⟩ : ∃ x, w.heap.size = x := ⟨_, rfl⟩
  rw [hS] at r0 lt0 ⊢
  have c9 := h0.out.c9
  have c16 := h0.out.c16
  have c42 := h0.out.c42
  have tk := Lib.hid h0.out.tok
  go_wp2_with (first | ((with_reducible refine wpList_at (o := ⟨some 18, .load 47 (.tmp 17), _, _, _, _⟩) ?_); refine wpList_load_seg (op := ⟨some 18, .load 47 (.tmp 17), _, _, _, _⟩) rfl 47 (.tmp 17) rfl TB (i * 5) rfl (tk5 f i) _ Tryd.underlying47 rfl (i47 _ _ _) tk.out ?_) | ((with_reducible refine wpList_at (o := ⟨none, .store 47 (.tmp 4) (.tmp 18), _, _, _, _⟩) ?_); refine wpList_store_room (op := ⟨none, .store 47 (.tmp 4) (.tmp 18), _, _, _, _⟩) rfl 47 (.tmp 4) (.tmp 18) rfl S 0 5 (tk5 f i) r0.out (by show 0 + 5 ≤ 5; omega) rfl rfl (i47 _ _ _) (tkL_one _ _ _) ?_; intro V hV; replace hV := Lib.hid hV))
  obtain ⟨d0, d1, d2, d3, d4⟩ := seg5 r0.out hV.out
  refine bodyPost_ret (v := .agg (tk5 f i).toArray) (by simp only [results, Tryd.results28, go_sem, Act.put]; simp [go_sem, d0, d1, d2, d3, d4, tk5]) rfl ⟨rfl, ?_⟩
  exact b0.out.trans ((below_set hV.out (Nat.le_refl S) (by omega)).mono (by omega))
set_option maxRecDepth 100000 in
set_option maxHeartbeats 4000000 in
theorem cur_c (P TB n c i : Nat) (C : ByteArray) (f : Nat → Int) (w : World) (h : PsC w P TB n c i C f) (hi : i < n) (hn : n ≤ 4096) : Calls Tryd.prog 23 #[.pointer (some ⟨P, 0, none⟩)] w (Gv (.agg (tk5 f i).toArray) w) := by
  have i0 : (0 : Int) ≤ i := by omega
  have i1 : (i : Int) < n := by omega
  have H := Lib.hid h
  clear h
  go_enter Tryd.func23, Tryd.ntmps23
  go_upto_region 1 with fail
  refine wp_gen (fun W0 hW => ?_)
  have b0 : Hid (Below w.heap.size w W0) := Lib.hid (by rw [hW]; exact ba _ _)
  have r0 : Hid (Room W0 w.heap.size 5) := Lib.hid (by rw [hW]; exact Room.newN _ _ rfl _)
  have lt0 : w.heap.size < W0.heap.size := by rw [hW]; simp
  clear hW
  have h0 := Lib.hid (H.out.after b0.out)
  obtain ⟨S, hS⟩ : ∃ x, w.heap.size = x := ⟨_, rfl⟩
  rw [hS] at r0 lt0 ⊢
  have c42 := h0.out.c42
  have C28 := Lib.hid (at_c P TB n c i C f W0 h0.out hi hn)
  go_wp2_with (first | (go_at_call 28; (with_reducible refine C28.out.mono ?_); rintro e w2 ⟨rfl, b2⟩; have r2 := Lib.hid (r0.out.after b2); replace b2 := Lib.hid b2) | ((with_reducible refine wpList_at (o := ⟨none, .store 47 (.tmp 2) (.tmp 8), _, _, _, _⟩) ?_); refine wpList_store_room (op := ⟨none, .store 47 (.tmp 2) (.tmp 8), _, _, _, _⟩) rfl 47 (.tmp 2) (.tmp 8) rfl S 0 5 (tk5 f i) r2.out (by show 0 + 5 ≤ 5; omega) rfl rfl (i47 _ _ _) (tkL_one _ _ _) ?_; intro V hV; replace hV := Lib.hid hV))
  obtain ⟨d0, d1, d2, d3, d4⟩ := seg5 r2.out hV.out
  refine bodyPost_ret (v := .agg (tk5 f i).toArray) (by simp only [results, Tryd.results23, go_sem, Act.put]; simp [go_sem, d0, d1, d2, d3, d4, tk5]) rfl ⟨rfl, ?_⟩
  have z2 := b2.out.size
  exact b0.out.trans ((b2.out.mono (by omega)).trans ((below_set hV.out (Nat.le_refl S) (by omega)).mono (by omega)))
set_option maxRecDepth 100000 in
set_option maxHeartbeats 4000000 in
theorem decd_c (P TB n c i : Nat) (C : ByteArray) (f : Nat → Int) (w : World) (h : PsC w P TB n c i C f) (hi : i < n) (hn : n ≤ 4096) (hz : off f i + (txN (f i)).size ≤ C.size) (hC : C.size ≤ 1048576) (he : C.extract (off f i) (off f i + (txN (f i)).size) = txN (f i)) : Calls Tryd.prog 24 #[.pointer (some ⟨P, 0, none⟩)] w (Gv (.string (txN (f i))) w) := by
  have H := Lib.hid h
  clear h
  go_enter Tryd.func24, Tryd.ntmps24
  go_upto_region 1 with fail
  have C23 := Lib.hid (fun d os => cur_c P TB n c i C f (Sort.grow (redrawn w d) os) (H.out.after (below_regrown _ d os)) hi hn)
  have C29 := Lib.hid (fun w => dt_c (f i) C (off f i) w hz hC he)
  have y9 := fun d os => cell_regrown H.out.c9 d os
  refine drawn_tail 8 (by kernel_rfl) (by kernel_rfl) (by kernel_rfl) (fun Q hQ => ?_)
  simp only [List.take_succ_cons, List.take_zero, List.drop_succ_cons, List.drop_zero]
  repeat (quiet_step (first | exact Calls.regrown_of (C23.out _ _) | exact Calls.regrown_of (C29.out _)))
  refine wpQuiet_nil ?_
  intro W3 hw
  have b3 : Hid (Below w.heap.size w W3) := Lib.hid (by
    obtain ⟨⟨d, os⟩, rfl⟩ := hw
    exact below_regrown _ d os)
  clear hw y9
  go_wp2
  go_ret
  exact ⟨rfl, b3.out⟩
set_option maxRecDepth 100000 in
set_option maxHeartbeats 4000000 in
theorem nt_c (P TB n c i : Nat) (C : ByteArray) (f : Nat → Int) (w : World) (h : PsC w P TB n c i C f) (hi : i < n) (hn : n ≤ 4096) (hz : off f i + (txN (f i)).size ≤ C.size) (hC : C.size ≤ 1048576) (he : C.extract (off f i) (off f i + (txN (f i)).size) = txN (f i)) : Calls Tryd.prog 15 #[.pointer (some ⟨P, 0, none⟩)] w (Gv (.agg (ntL (txN (f i)) (off f i) (txN (f i)).size (kdN (f i))).toArray) w) := by
  have i0 : (0 : Int) ≤ i := by omega
  have i1 : (i : Int) < n := by omega
  have H := Lib.hid h
  clear h
  go_enter Tryd.func15, Tryd.ntmps15
  go_upto_region 1 with fail
  refine wp_gen (fun W0 hW => ?_)
  have b0 : Hid (Below w.heap.size w W0) := Lib.hid (by rw [hW]; exact ba _ _)
  have r0 : Hid (Room W0 w.heap.size 4) := Lib.hid (by rw [hW]; exact Room.newN _ _ rfl _)
  have lt0 : w.heap.size < W0.heap.size := by rw [hW]; simp
  clear hW
  have h0 := Lib.hid (H.out.after b0.out)
  obtain ⟨S, hS⟩ : ∃ x, w.heap.size = x := ⟨_, rfl⟩
  rw [hS] at r0 lt0 ⊢
  have C23 := Lib.hid (cur_c P TB n c i C f W0 h0.out hi hn)
  go_upto_region 2 with (first | (go_at_call 23; (with_reducible refine C23.out.mono ?_); rintro e w2 ⟨rfl, b2⟩; have r2 := Lib.hid (r0.out.after b2); replace b2 := Lib.hid b2) | ((with_reducible refine wpList_at (o := ⟨none, .store 47 (.tmp 3) (.tmp 5), _, _, _, _⟩) ?_); refine wpList_store_room (op := ⟨none, .store 47 (.tmp 3) (.tmp 5), _, _, _, _⟩) rfl 47 (.tmp 3) (.tmp 5) rfl w2.heap.size 0 5 (tk5 f i) (Room.newN _ _ rfl _) (by show 0 + 5 ≤ 5; omega) rfl rfl (i47 _ _ _) (tkL_one _ _ _) ?_; intro V hV; replace hV := Lib.hid hV))
  have z2 := b2.out.size
  obtain ⟨d0, d1, d2, d3, d4⟩ := seg5 (Room.newN _ _ rfl _) hV.out
  have bV : Hid (Below w2.heap.size w2 V) := Lib.hid ((ba w2 _).trans (below_set hV.out (Nat.le_refl _) (by simp)))
  have rV := Lib.hid (r2.out.after bV.out)
  have hp := Lib.hid ((h0.out.after b2.out).after bV.out)
  clear hV
  have C24 := Lib.hid (fun d os => decd_c P TB n c i C f (Sort.grow (redrawn V d) os) (hp.out.after (below_regrown _ d os)) hi hn hz hC he)
  obtain ⟨S2, hS2⟩ : ∃ x, w2.heap.size = x := ⟨_, rfl⟩
  rw [hS2] at d0 d1 d2 d3 d4 ⊢
  have y0 := fun d os => cell_regrown d0 d os
  have y1 := fun d os => cell_regrown d1 d os
  have y3 := fun d os => cell_regrown d3 d os
  refine drawn_tail 7 (by kernel_rfl) (by kernel_rfl) (by kernel_rfl) (fun Q hQ => ?_)
  simp only [List.take_succ_cons, List.take_zero, List.drop_succ_cons, List.drop_zero]
  repeat (quiet_step (exact Calls.regrown_of (C24.out _ _)))
  refine wpQuiet_nil ?_
  intro W3 hw
  have b3 : Hid (Below V.heap.size V W3) := Lib.hid (by
    obtain ⟨⟨d, os⟩, rfl⟩ := hw
    exact below_regrown _ d os)
  clear hw y0 y1 y3 d0 d1 d2 d3 d4
  have r3 := Lib.hid (rV.out.after b3.out)
  have zV := bV.out.size
  have z3 := b3.out.size
  go_wp2_with ((with_reducible refine wpList_at (o := ⟨none, .store 38 (.tmp 2) (.tmp 12), _, _, _, _⟩) ?_); refine wpList_store_room (op := ⟨none, .store 38 (.tmp 2) (.tmp 12), _, _, _, _⟩) rfl 38 (.tmp 2) (.tmp 12) rfl S 0 4 (ntL (txN (f i)) (off f i) (txN (f i)).size (kdN (f i))) r3.out (by show 0 + 4 ≤ 4; omega) rfl rfl (i38 _ _ _ _) (ntL_one _ _ _ _) ?_; intro V4 hV4; replace hV4 := Lib.hid hV4)
  obtain ⟨d0, d1, d2, d3⟩ := seg4 r3.out hV4.out
  refine bodyPost_ret (v := .agg (ntL (txN (f i)) (off f i) (txN (f i)).size (kdN (f i))).toArray) (by simp only [results, Tryd.results15, go_sem, Act.put]; simp [go_sem, d0, d1, d2, d3]) rfl ⟨rfl, ?_⟩
  exact b0.out.trans ((b2.out.mono (by omega)).trans ((bV.out.mono (by omega)).trans ((b3.out.mono (by omega)).trans ((below_set hV4.out (Nat.le_refl S) (by omega)).mono (by omega)))))
set_option maxRecDepth 100000 in
set_option maxHeartbeats 4000000 in
theorem nt8_c (P TB n c i : Nat) (C : ByteArray) (f : Nat → Int) (w : World) (h : PsC w P TB n c i C f) (hi : i < n) (hn : n ≤ 4096) (hz : off f i + (txN (f i)).size ≤ C.size) (hC : C.size ≤ 1048576) (he : C.extract (off f i) (off f i + (txN (f i)).size) = txN (f i)) : Calls Tryd.prog 8 #[.pointer (some ⟨P, 0, none⟩)] w (Gv (.agg (ntL (txN (f i)) (off f i) (txN (f i)).size (kdN (f i))).toArray) w) := by
  have i0 : (0 : Int) ≤ i := by omega
  have i1 : (i : Int) < n := by omega
  have H := Lib.hid h
  clear h
  go_enter Tryd.func8, Tryd.ntmps8
  go_upto_region 1 with fail
  refine wp_gen (fun W0 hW => ?_)
  have b0 : Hid (Below w.heap.size w W0) := Lib.hid (by rw [hW]; exact ba _ _)
  have r0 : Hid (Room W0 w.heap.size 4) := Lib.hid (by rw [hW]; exact Room.newN _ _ rfl _)
  have lt0 : w.heap.size < W0.heap.size := by rw [hW]; simp
  clear hW
  have h0 := Lib.hid (H.out.after b0.out)
  obtain ⟨S, hS⟩ : ∃ x, w.heap.size = x := ⟨_, rfl⟩
  rw [hS] at r0 lt0 ⊢
  have C15 := Lib.hid (nt_c P TB n c i C f W0 h0.out hi hn hz hC he)
  go_wp2_with (first | (go_at_call 15; (with_reducible refine C15.out.mono ?_); rintro e w2 ⟨rfl, b2⟩; have r2 := Lib.hid (r0.out.after b2); replace b2 := Lib.hid b2) | ((with_reducible refine wpList_at (o := ⟨none, .store 38 (.tmp 2) (.tmp 4), _, _, _, _⟩) ?_); refine wpList_store_room (op := ⟨none, .store 38 (.tmp 2) (.tmp 4), _, _, _, _⟩) rfl 38 (.tmp 2) (.tmp 4) rfl S 0 4 (ntL (txN (f i)) (off f i) (txN (f i)).size (kdN (f i))) r2.out (by show 0 + 4 ≤ 4; omega) rfl rfl (i38 _ _ _ _) (ntL_one _ _ _ _) ?_; intro V hV; replace hV := Lib.hid hV))
  have z2 := b2.out.size
  obtain ⟨d0, d1, d2, d3⟩ := seg4 r2.out hV.out
  refine bodyPost_ret (v := .agg (ntL (txN (f i)) (off f i) (txN (f i)).size (kdN (f i))).toArray) (by simp only [results, Tryd.results8, go_sem, Act.put]; simp [go_sem, d0, d1, d2, d3]) rfl ⟨rfl, ?_⟩
  exact b0.out.trans ((b2.out.mono (by omega)).trans ((below_set hV.out (Nat.le_refl S) (by omega)).mono (by omega)))
set_option maxRecDepth 100000 in
set_option maxHeartbeats 4000000 in
theorem ix_c (P TB n c i : Nat) (C : ByteArray) (f : Nat → Int) (w : World) (h : PsC w P TB n c i C f) (hi : i < n) (hn : n ≤ 4096) : Calls Tryd.prog 9 #[.pointer (some ⟨P, 0, none⟩)] w (Gv (.int .i64 i) w) := by
  have c42 := h.c42
  clear h
  go_enter Tryd.func9, Tryd.ntmps9
  go_wp2
  go_ret
  exact ⟨rfl, Below.refl _ _⟩
end Go.Proofs.YtbakdeoeceajeaaDoor

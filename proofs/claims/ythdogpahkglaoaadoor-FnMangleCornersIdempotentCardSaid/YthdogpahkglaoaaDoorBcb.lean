/- updateCorner where the old rule goes. -/
import Derived.Test.YthdogpahkglaoaaDoorBc2
set_option linter.unusedVariables false
set_option linter.unusedSimpArgs false
namespace Go.Proofs.YthdogpahkglaoaaDoor
open Go.RowKit
theorem setCells_other {w : World} {b R o j : Nat} {vs : List Value} (h : b ≠ R) : (w.setCells b o vs).cell? ⟨R, j, none⟩ = w.cell? ⟨R, j, none⟩ :=
  World.cell?_setCells_out b vs o w _ (fun e _ => absurd e.symm h)
def PutR (b k : Nat) (x : Cn) (R n i : Nat) (w : World) (e : Ending) (w' : World) : Prop := e = .returned (.tuple #[]) ∧ Put b k x w w' ∧ Only (fun z => z = b ∨ z = R) w w' ∧ w'.cell? ⟨R, i * 2, none⟩ = some .nilIface ∧ w'.cell? ⟨R, i * 2 + 1, none⟩ = some (.int .i32 0) ∧ (∀ j v, j ≠ i * 2 → j ≠ i * 2 + 1 → w.cell? ⟨R, j, none⟩ = some v → w'.cell? ⟨R, j, none⟩ = some v) ∧ Room w' R (n * 2)
set_option maxRecDepth 100000 in
set_option maxHeartbeats 4000000 in
theorem upd_b (b k R n c i : Nat) (O x : Cn) (w : World) (h : Room w b 73) (hk : k < 4) (ho : CAt w b k O) (hn : n ≤ 4096) (e1 : (O.t1.kd != 0) = true) (e2 : x.sg = false) (e3 : O.st = 0) (e4 : x.st = 0) (e5 : O.ix = i) (hin : i < n) (hR : Room w R (n * 2)) (hbR : b ≠ R) :
    Calls Tryd.prog 25 #[.pointer (some ⟨b, 0, none⟩), .slice (some ⟨R, 0, none⟩) n c, .int .i64 k, x.val] w (PutR b k x R n i w) := by
  have H := Lib.hid h
  have hbl : b < w.heap.size := h.lt (by omega)
  have HO := Lib.hid (fun o => Seg.after ho (ba w o))
  have HN := Lib.hid (fun (o1 : Obj) => (by have := Room.newN (w.alloc o1) zCn (n := 18) rfl 66; simpa using this : Room ((w.alloc o1).alloc (.cells zCn 66)) (w.heap.size + 1) 18))
  have k0 : (0 : Int) ≤ k := by omega
  have k1 : (k : Int) < 4 := by omega
  have ex : Hid (Seg (w.alloc (.cells (cnL x).toArray 66)) w.heap.size 0 (cnL x)) := Lib.hid (Seg.new w (cnL x) 66)
  clear h ho
  have E2 := Lib.hid e2
  have E3 := Lib.hid e3
  have E4 := Lib.hid e4
  have E5 := Lib.hid e5
  have HRR := Lib.hid hR
  have HbR := Lib.hid hbR
  have hRl : R < w.heap.size := hR.lt (by omega)
  clear e2 e3 e4 e5 hR hbR
  go_enter Tryd.func25, Tryd.ntmps25
  go_upto_region 2 with (first | ((with_reducible refine wpList_at (o := ⟨some 14, .load 66 (.tmp 13), _, _, _, _⟩) ?_); refine wpList_load_seg (op := ⟨some 14, .load 66 (.tmp 13), _, _, _, _⟩) rfl 66 (.tmp 13) rfl b (k * 18) rfl (cnL O) _ Tryd.underlying66 rfl (i66 O) (HO.out _) ?_) | ((with_reducible refine wpList_at (o := ⟨none, .store 66 (.tmp 8) (.tmp 14), _, _, _, _⟩) ?_); refine wpList_store_room (op := ⟨none, .store 66 (.tmp 8) (.tmp 14), _, _, _, _⟩) rfl 66 (.tmp 8) (.tmp 14) rfl (w.heap.size + 1) 0 18 (cnL O) (HN.out _) (l18 O) rfl rfl (i66 O) (cnL_one O) ?_; intro W2 hW2))
  have hA : Below w.heap.size w W2 := by
    rw [hW2]
    exact (Only.setCells (S := fun z => z = w.heap.size + 1) _ rfl _ _ (Only.of ((ba w _).trans ((ba _ _).mono (by simp))))).below w.heap.size (Nat.le_refl _) (fun z e => by subst e; omega)
  have sO : Seg W2 (w.heap.size + 1) 0 (cnL O) := by rw [hW2]; exact Seg.put (HN.out _) (l18 O)
  have sx : Seg W2 w.heap.size 0 (cnL x) := by
    rw [hW2]
    exact (Seg.after ex.out (ba _ _)).only (Only.setCells (S := fun z => z = w.heap.size + 1) _ rfl _ _ (Only.refl _)) (by omega)
  have o5 : W2.cell? ⟨w.heap.size + 1, 5, none⟩ = some (.int .u8 O.t1.kd) := sO 5 _ rfl
  have o15 : W2.cell? ⟨w.heap.size + 1, 15, none⟩ = some (.int .u8 0) := by rw [← E3.out]; exact sO 15 _ rfl
  have o16 : W2.cell? ⟨w.heap.size + 1, 16, none⟩ = some (.int .u32 i) := by rw [← E5.out]; exact sO 16 _ rfl
  have o17 : W2.cell? ⟨w.heap.size + 1, 17, none⟩ = some (.bool O.sg) := sO 17 _ rfl
  have x15 : W2.cell? ⟨w.heap.size, 15, none⟩ = some (.int .u8 0) := by rw [← E4.out]; exact sx 15 _ rfl
  have x17 : W2.cell? ⟨w.heap.size, 17, none⟩ = some (.bool false) := by rw [← E2.out]; exact sx 17 _ rfl
  clear hW2 HN HO ex sO
  replace sx := Lib.hid sx
  replace hA := Lib.hid hA
  have H2 := Lib.hid (H.out.after hA.out)
  have RW2 := Lib.hid (HRR.out.after hA.out)
  have keepA := Lib.hid (fun (a : Addr) (v : Value) (hv : w.cell? a = some v) => ac hA.out hv)
  have HO2 : Hid (Only (fun z => False) w W2) := Lib.hid (Only.of hA.out)
  generalize hP : w.heap.size = P at *
  replace hP := Lib.hid hP
  obtain ⟨r0, s0, f0⟩ := RW2.out (i * 2) (by omega)
  obtain ⟨r1, s1, f1⟩ := RW2.out (i * 2 + 1) (by omega)
  have i0 : (0 : Int) ≤ i := by omega
  have i1 : (i : Int) < n := by omega
  go_upto_region 4 with fail
  refine wp_gen (fun WX hWX => ?_)
  have OX : Hid (Only (fun z => z = R) W2 WX) := Lib.hid (by rw [hWX]; exact ((Only.refl (S := fun z => z = R) W2).set ⟨R, i * 2, none⟩ _ rfl).set ⟨R, i * 2 + 1, none⟩ _ rfl)
  have cX0 : Hid (WX.cell? ⟨R, i * 2, none⟩ = some .nilIface) := Lib.hid (by rw [hWX, co (by intro h; injection h; omega)]; exact cs s0)
  have cX1 : Hid (WX.cell? ⟨R, i * 2 + 1, none⟩ = some (.int .i32 0)) := Lib.hid (by rw [hWX]; exact cs (by rw [co (by intro h; injection h; omega)]; exact s1))
  have cXo : Hid (∀ j, j ≠ i * 2 → j ≠ i * 2 + 1 → WX.cell? ⟨R, j, none⟩ = W2.cell? ⟨R, j, none⟩) := Lib.hid (fun j h1 h2 => by rw [hWX, co (by intro h; injection h; omega), co (by intro h; injection h; omega)])
  have RX : Hid (Room WX R (n * 2)) := Lib.hid (by rw [hWX]; exact (RW2.out.set _ _).set _ _)
  clear hWX s0 s1 f0 f1 o5 o15 o16 o17 x15 x17
  have sxX : Hid (Seg WX P 0 (cnL x)) := Lib.hid (sx.out.only OX.out (fun e => by have e' : P = R := e; have hp' := hP.out; omega))
  have HX : Hid (Room WX b 73) := Lib.hid (OX.out.room H2.out HbR.out)
  have HOX : Hid (Only (fun z => z = R) w WX) := Lib.hid ((HO2.out.wide (fun _ h => h.elim)).trans OX.out)
  have y0 : ∀ d os, (Sort.grow (redrawn WX d) os).cell? ⟨P, 0, none⟩ = some (.pointer none) := fun d os => cell_regrown (sxX.out 0 _ rfl) d os
  have y1 : ∀ d os, (Sort.grow (redrawn WX d) os).cell? ⟨P, 1, none⟩ = some (.string x.t1.tx) := fun d os => cell_regrown (sxX.out 1 _ rfl) d os
  have y2 : ∀ d os, (Sort.grow (redrawn WX d) os).cell? ⟨P, 2, none⟩ = some (.int .i32 x.t1.lo) := fun d os => cell_regrown (sxX.out 2 _ rfl) d os
  have y3 : ∀ d os, (Sort.grow (redrawn WX d) os).cell? ⟨P, 3, none⟩ = some (.int .u32 x.t1.pl) := fun d os => cell_regrown (sxX.out 3 _ rfl) d os
  have y4 : ∀ d os, (Sort.grow (redrawn WX d) os).cell? ⟨P, 4, none⟩ = some (.int .u16 x.t1.uo) := fun d os => cell_regrown (sxX.out 4 _ rfl) d os
  have y5 : ∀ d os, (Sort.grow (redrawn WX d) os).cell? ⟨P, 5, none⟩ = some (.int .u8 x.t1.kd) := fun d os => cell_regrown (sxX.out 5 _ rfl) d os
  have y6 : ∀ d os, (Sort.grow (redrawn WX d) os).cell? ⟨P, 6, none⟩ = some (.int .u8 x.t1.ws) := fun d os => cell_regrown (sxX.out 6 _ rfl) d os
  have y7 : ∀ d os, (Sort.grow (redrawn WX d) os).cell? ⟨P, 7, none⟩ = some (.pointer none) := fun d os => cell_regrown (sxX.out 7 _ rfl) d os
  have y8 : ∀ d os, (Sort.grow (redrawn WX d) os).cell? ⟨P, 8, none⟩ = some (.string x.t2.tx) := fun d os => cell_regrown (sxX.out 8 _ rfl) d os
  have y9 : ∀ d os, (Sort.grow (redrawn WX d) os).cell? ⟨P, 9, none⟩ = some (.int .i32 x.t2.lo) := fun d os => cell_regrown (sxX.out 9 _ rfl) d os
  have y10 : ∀ d os, (Sort.grow (redrawn WX d) os).cell? ⟨P, 10, none⟩ = some (.int .u32 x.t2.pl) := fun d os => cell_regrown (sxX.out 10 _ rfl) d os
  have y11 : ∀ d os, (Sort.grow (redrawn WX d) os).cell? ⟨P, 11, none⟩ = some (.int .u16 x.t2.uo) := fun d os => cell_regrown (sxX.out 11 _ rfl) d os
  have y12 : ∀ d os, (Sort.grow (redrawn WX d) os).cell? ⟨P, 12, none⟩ = some (.int .u8 x.t2.kd) := fun d os => cell_regrown (sxX.out 12 _ rfl) d os
  have y13 : ∀ d os, (Sort.grow (redrawn WX d) os).cell? ⟨P, 13, none⟩ = some (.int .u8 x.t2.ws) := fun d os => cell_regrown (sxX.out 13 _ rfl) d os
  have y14 : ∀ d os, (Sort.grow (redrawn WX d) os).cell? ⟨P, 14, none⟩ = some (.string x.un) := fun d os => cell_regrown (sxX.out 14 _ rfl) d os
  have y15 : ∀ d os, (Sort.grow (redrawn WX d) os).cell? ⟨P, 15, none⟩ = some (.int .u8 x.st) := fun d os => cell_regrown (sxX.out 15 _ rfl) d os
  have y16 : ∀ d os, (Sort.grow (redrawn WX d) os).cell? ⟨P, 16, none⟩ = some (.int .u32 x.ix) := fun d os => cell_regrown (sxX.out 16 _ rfl) d os
  have y17 : ∀ d os, (Sort.grow (redrawn WX d) os).cell? ⟨P, 17, none⟩ = some (.bool x.sg) := fun d os => cell_regrown (sxX.out 17 _ rfl) d os
  refine drawn_tail 6 (by kernel_rfl) (by kernel_rfl) (by kernel_rfl) (fun Q hQ => ?_)
  simp only [List.take_succ_cons, List.take_zero, List.drop_succ_cons, List.drop_zero]
  repeat (quiet_step (fail))
  refine wpQuiet_nil ?_
  intro W3 hw
  have hb3 : Below WX.heap.size WX W3 := by
    obtain ⟨⟨d, os⟩, rfl⟩ := hw
    exact below_regrown _ d os
  have H3 := Lib.hid (HX.out.after hb3)
  have HO3 := Lib.hid (HOX.out.trans (Only.of hb3))
  have hbR := Lib.hid hb3
  clear hw hb3 y0 y1 y2 y3 y4 y5 y6 y7 y8 y9 y10 y11 y12 y13 y14 y15 y16 y17
  go_wp2_with ((with_reducible refine wpList_at (o := ⟨none, .store 66 (.tmp 50) (.tmp 47), _, _, _, _⟩) ?_); refine wpList_store_room (op := ⟨none, .store 66 (.tmp 50) (.tmp 47), _, _, _, _⟩) rfl 66 (.tmp 50) (.tmp 47) rfl b (k * 18) 73 (cnL x) H3.out (l73 x hk) rfl rfl (i66 x) (cnL_one x) ?_; intro W4 hW4)
  subst hW4
  have OF := HO3.out
  have bR := HbR.out
  have hT : (b ≠ R) := bR
  refine bodyPost_end (v := .tuple #[]) (by simp [results, Tryd.results25, go_sem]) rfl ⟨rfl, Put.mk' HO3.out bR H.out hk, Only.setCells (S := fun z => z = b ∨ z = R) b (.inl rfl) _ _ (HO3.out.wide (fun _ h => .inr h)), ?_, ?_, ?_, ?_⟩
  · rw [setCells_other bR]; exact ac hbR.out cX0.out
  · rw [setCells_other bR]; exact ac hbR.out cX1.out
  · intro j v h1 h2 hv
    rw [setCells_other bR]
    exact ac hbR.out (by rw [cXo.out j h1 h2]; exact keepA.out _ _ hv)
  · exact Room.setCells _ _ _ _ (RX.out.after hbR.out)
end Go.Proofs.YthdogpahkglaoaaDoor

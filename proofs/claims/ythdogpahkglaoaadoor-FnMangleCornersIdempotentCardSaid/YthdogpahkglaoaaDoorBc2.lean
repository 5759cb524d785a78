/- The tracker of corners. -/
import Derived.Test.YthdogpahkglaoaaDoorBc1
import Derived.Test.YthdogpahkglaoaaDoorSeg
set_option linter.unusedVariables false
set_option linter.unusedSimpArgs false
namespace Go.Proofs.YthdogpahkglaoaaDoor
open Go.RowKit
/-- a corner; its tokens have no children -/
structure Cn where
  t1 : Tk
  t2 : Tk
  un : ByteArray
  st : Int
  ix : Int
  sg : Bool
abbrev cnL (x : Cn) : List Value := [.pointer none, .string x.t1.tx, .int .i32 x.t1.lo, .int .u32 x.t1.pl, .int .u16 x.t1.uo, .int .u8 x.t1.kd, .int .u8 x.t1.ws, .pointer none, .string x.t2.tx, .int .i32 x.t2.lo, .int .u32 x.t2.pl, .int .u16 x.t2.uo, .int .u8 x.t2.kd, .int .u8 x.t2.ws, .string x.un, .int .u8 x.st, .int .u32 x.ix, .bool x.sg]
abbrev Cn.val (x : Cn) : Value := .agg #[.pointer none, .string x.t1.tx, .int .i32 x.t1.lo, .int .u32 x.t1.pl, .int .u16 x.t1.uo, .int .u8 x.t1.kd, .int .u8 x.t1.ws, .pointer none, .string x.t2.tx, .int .i32 x.t2.lo, .int .u32 x.t2.pl, .int .u16 x.t2.uo, .int .u8 x.t2.kd, .int .u8 x.t2.ws, .string x.un, .int .u8 x.st, .int .u32 x.ix, .bool x.sg]
theorem cnL_one (x : Cn) : ∀ v ∈ cnL x, v.oneCell' = true := by
  intro v hv
  simp only [List.mem_cons, List.not_mem_nil, or_false] at hv
  rcases hv with rfl | rfl | rfl | rfl | rfl | rfl | rfl | rfl | rfl | rfl | rfl | rfl | rfl | rfl | rfl | rfl | rfl | rfl <;> rfl
abbrev CAt (w : World) (b k : Nat) (x : Cn) : Prop := Seg w b (k * 18) (cnL x)
/-- corner k of the tracker at b is x now, the others are as they were -/
structure Put (b k : Nat) (x : Cn) (w w' : World) : Prop where
  side : CAt w' b k x
  oth : ∀ s X, s ≠ k → CAt w b s X → CAt w' b s X
  imp : w'.cell? ⟨b, 72, none⟩ = w.cell? ⟨b, 72, none⟩
  room : Room w' b 73
theorem Put.mk' {b k : Nat} {x : Cn} {w W : World} {T : Nat → Prop} (hW : Only T w W) (hT : ¬ T b) (hr : Room w b 73) (hk : k < 4) : Put b k x w (W.setCells b (k * 18) (cnL x)) := by
  have hR := hW.room hr hT
  refine ⟨Seg.put hR (by simp; omega), fun s X hs hX => (hX.only hW hT).far (by simp; omega), ?_, Room.setCells _ _ _ _ hR⟩
  rw [setCells_out (by simp; omega)]
  obtain ⟨v, hv, -⟩ := hr 72 (by omega)
  rw [hW.keep hv hT, hv]
theorem Put.after {b k : Nat} {x : Cn} {w w1 w' : World} (h : Put b k x w w1) (hb : Below w1.heap.size w1 w') : Put b k x w w' := by
  obtain ⟨v, hv, -⟩ := h.room 72 (by omega)
  exact ⟨h.side.after hb, fun s X hs hX => (h.oth s X hs hX).after hb, by rw [ac hb hv, ← h.imp, hv], h.room.after hb⟩
def PutP (T : Nat → Prop) (b k : Nat) (x : Cn) (w : World) (e : Ending) (w' : World) : Prop := e = .returned (.tuple #[]) ∧ Put b k x w w' ∧ Only T w w'
theorem i66 (x : Cn) : (Tryd.prog.info? 66).map (·.size) = some (cnL x).length := (by kernel_rfl : (Tryd.prog.info? 66).map (·.size) = some 18)
theorem l18 (x : Cn) : 0 + (cnL x).length ≤ 18 := Nat.le_refl _
theorem l73 (x : Cn) {k : Nat} (hk : k < 4) : k * 18 + (cnL x).length ≤ 73 := by show k * 18 + 18 ≤ 73; omega
abbrev zCn : Array Value := #[.pointer none, .string ⟨#[]⟩, .int .i32 0, .int .u32 0, .int .u16 0, .int .u8 0, .int .u8 0, .pointer none, .string ⟨#[]⟩, .int .i32 0, .int .u32 0, .int .u16 0, .int .u8 0, .int .u8 0, .string ⟨#[]⟩, .int .u8 0, .int .u32 0, .bool false]
set_option maxRecDepth 100000 in
set_option maxHeartbeats 4000000 in
theorem upd_a (b k R n c : Nat) (O x : Cn) (w : World) (h : Room w b 73) (hk : k < 4) (ho : CAt w b k O) (hn : n ≤ 4096) (e1 : (O.t1.kd != 0) = false) :
    Calls Tryd.prog 25 #[.pointer (some ⟨b, 0, none⟩), .slice (some ⟨R, 0, none⟩) n c, .int .i64 k, x.val] w (PutP (fun z => z = b) b k x w) := by
  have H := Lib.hid h
  have hbl : b < w.heap.size := h.lt (by omega)
  have HO := Lib.hid (fun o => Seg.after ho (ba w o))
  have HN := Lib.hid (fun (o1 : Obj) => (by have := Room.newN (w.alloc o1) zCn (n := 18) rfl 66; simpa using this : Room ((w.alloc o1).alloc (.cells zCn 66)) (w.heap.size + 1) 18))
  have k0 : (0 : Int) ≤ k := by omega
  have k1 : (k : Int) < 4 := by omega
  have ex : Hid (Seg (w.alloc (.cells (cnL x).toArray 66)) w.heap.size 0 (cnL x)) := Lib.hid (Seg.new w (cnL x) 66)
  clear h ho
  go_enter Tryd.func25, Tryd.ntmps25
  go_upto_region 2 with (first | ((with_reducible refine wpList_at (o := ⟨some 14, .load 66 (.tmp 13), _, _, _, _⟩) ?_); refine wpList_load_seg (op := ⟨some 14, .load 66 (.tmp 13), _, _, _, _⟩) rfl 66 (.tmp 13) rfl b (k * 18) rfl (cnL O) _ Tryd.underlying66 rfl (i66 O) (HO.out _) ?_) | ((with_reducible refine wpList_at (o := ⟨none, .store 66 (.tmp 8) (.tmp 14), _, _, _, _⟩) ?_); refine wpList_store_room (op := ⟨none, .store 66 (.tmp 8) (.tmp 14), _, _, _, _⟩) rfl 66 (.tmp 8) (.tmp 14) rfl (w.heap.size + 1) 0 18 (cnL O) (HN.out _) (l18 O) rfl rfl (i66 O) (cnL_one O) ?_; intro W2 hW2))
  have hA : Below w.heap.size w W2 := by
    rw [hW2]
    exact (Only.setCells (S := fun z => z = w.heap.size + 1) _ rfl _ _ (Only.of ((ba w _).trans ((ba _ _).mono (by simp))))).below w.heap.size (Nat.le_refl _) (fun z e => by subst e; omega)
  have sO : Seg W2 (w.heap.size + 1) 0 (cnL O) := by rw [hW2]; exact Seg.put (HN.out _) (l18 O)
  have sx : Seg W2 w.heap.size 0 (cnL x) := by
    rw [hW2]
    exact (Seg.after ex.out (ba _ _)).only (Only.setCells (S := fun z => z = w.heap.size + 1) _ rfl _ _ (Only.refl _)) (by omega)
  have o5 : W2.cell? ⟨w.heap.size + 1, 5, none⟩ = some (.int .u8 O.t1.kd) := sO 5 _ rfl
  have o15 : W2.cell? ⟨w.heap.size + 1, 15, none⟩ = some (.int .u8 O.st) := sO 15 _ rfl
  have o16 : W2.cell? ⟨w.heap.size + 1, 16, none⟩ = some (.int .u32 O.ix) := sO 16 _ rfl
  have o17 : W2.cell? ⟨w.heap.size + 1, 17, none⟩ = some (.bool O.sg) := sO 17 _ rfl
  have x15 : W2.cell? ⟨w.heap.size, 15, none⟩ = some (.int .u8 x.st) := sx 15 _ rfl
  have x17 : W2.cell? ⟨w.heap.size, 17, none⟩ = some (.bool x.sg) := sx 17 _ rfl
  clear hW2 HN HO ex sO
  replace sx := Lib.hid sx
  replace hA := Lib.hid hA
  have H2 := Lib.hid (H.out.after hA.out)
  have HO2 : Hid (Only (fun z => False) w W2) := Lib.hid (Only.of hA.out)
  generalize hP : w.heap.size = P at *
  replace hP := Lib.hid hP
  go_upto_region 4 with fail
  have y0 : ∀ d os, (Sort.grow (redrawn W2 d) os).cell? ⟨P, 0, none⟩ = some (.pointer none) := fun d os => cell_regrown (sx.out 0 _ rfl) d os
  have y1 : ∀ d os, (Sort.grow (redrawn W2 d) os).cell? ⟨P, 1, none⟩ = some (.string x.t1.tx) := fun d os => cell_regrown (sx.out 1 _ rfl) d os
  have y2 : ∀ d os, (Sort.grow (redrawn W2 d) os).cell? ⟨P, 2, none⟩ = some (.int .i32 x.t1.lo) := fun d os => cell_regrown (sx.out 2 _ rfl) d os
  have y3 : ∀ d os, (Sort.grow (redrawn W2 d) os).cell? ⟨P, 3, none⟩ = some (.int .u32 x.t1.pl) := fun d os => cell_regrown (sx.out 3 _ rfl) d os
  have y4 : ∀ d os, (Sort.grow (redrawn W2 d) os).cell? ⟨P, 4, none⟩ = some (.int .u16 x.t1.uo) := fun d os => cell_regrown (sx.out 4 _ rfl) d os
  have y5 : ∀ d os, (Sort.grow (redrawn W2 d) os).cell? ⟨P, 5, none⟩ = some (.int .u8 x.t1.kd) := fun d os => cell_regrown (sx.out 5 _ rfl) d os
  have y6 : ∀ d os, (Sort.grow (redrawn W2 d) os).cell? ⟨P, 6, none⟩ = some (.int .u8 x.t1.ws) := fun d os => cell_regrown (sx.out 6 _ rfl) d os
  have y7 : ∀ d os, (Sort.grow (redrawn W2 d) os).cell? ⟨P, 7, none⟩ = some (.pointer none) := fun d os => cell_regrown (sx.out 7 _ rfl) d os
  have y8 : ∀ d os, (Sort.grow (redrawn W2 d) os).cell? ⟨P, 8, none⟩ = some (.string x.t2.tx) := fun d os => cell_regrown (sx.out 8 _ rfl) d os
  have y9 : ∀ d os, (Sort.grow (redrawn W2 d) os).cell? ⟨P, 9, none⟩ = some (.int .i32 x.t2.lo) := fun d os => cell_regrown (sx.out 9 _ rfl) d os
  have y10 : ∀ d os, (Sort.grow (redrawn W2 d) os).cell? ⟨P, 10, none⟩ = some (.int .u32 x.t2.pl) := fun d os => cell_regrown (sx.out 10 _ rfl) d os
  have y11 : ∀ d os, (Sort.grow (redrawn W2 d) os).cell? ⟨P, 11, none⟩ = some (.int .u16 x.t2.uo) := fun d os => cell_regrown (sx.out 11 _ rfl) d os
  have y12 : ∀ d os, (Sort.grow (redrawn W2 d) os).cell? ⟨P, 12, none⟩ = some (.int .u8 x.t2.kd) := fun d os => cell_regrown (sx.out 12 _ rfl) d os
  have y13 : ∀ d os, (Sort.grow (redrawn W2 d) os).cell? ⟨P, 13, none⟩ = some (.int .u8 x.t2.ws) := fun d os => cell_regrown (sx.out 13 _ rfl) d os
  have y14 : ∀ d os, (Sort.grow (redrawn W2 d) os).cell? ⟨P, 14, none⟩ = some (.string x.un) := fun d os => cell_regrown (sx.out 14 _ rfl) d os
  have y15 : ∀ d os, (Sort.grow (redrawn W2 d) os).cell? ⟨P, 15, none⟩ = some (.int .u8 x.st) := fun d os => cell_regrown (sx.out 15 _ rfl) d os
  have y16 : ∀ d os, (Sort.grow (redrawn W2 d) os).cell? ⟨P, 16, none⟩ = some (.int .u32 x.ix) := fun d os => cell_regrown (sx.out 16 _ rfl) d os
  have y17 : ∀ d os, (Sort.grow (redrawn W2 d) os).cell? ⟨P, 17, none⟩ = some (.bool x.sg) := fun d os => cell_regrown (sx.out 17 _ rfl) d os
  refine drawn_tail 6 (by kernel_rfl) (by kernel_rfl) (by kernel_rfl) (fun Q hQ => ?_)
  simp only [List.take_succ_cons, List.take_zero, List.drop_succ_cons, List.drop_zero]
  repeat (quiet_step (fail))
  refine wpQuiet_nil ?_
  intro W3 hw
  have hb3 : Below W2.heap.size W2 W3 := by
    obtain ⟨⟨d, os⟩, rfl⟩ := hw
    exact below_regrown _ d os
  have H3 := Lib.hid (H2.out.after hb3)
  have HO3 := Lib.hid (HO2.out.trans (Only.of hb3))
  clear hw hb3 y0 y1 y2 y3 y4 y5 y6 y7 y8 y9 y10 y11 y12 y13 y14 y15 y16 y17
  go_wp2_with ((with_reducible refine wpList_at (o := ⟨none, .store 66 (.tmp 50) (.tmp 47), _, _, _, _⟩) ?_); refine wpList_store_room (op := ⟨none, .store 66 (.tmp 50) (.tmp 47), _, _, _, _⟩) rfl 66 (.tmp 50) (.tmp 47) rfl b (k * 18) 73 (cnL x) H3.out (l73 x hk) rfl rfl (i66 x) (cnL_one x) ?_; intro W4 hW4)
  subst hW4
  exact bodyPost_end (v := .tuple #[]) (by simp [results, Tryd.results25, go_sem]) rfl ⟨rfl, Put.mk' HO3.out id H.out hk, Only.setCells (S := fun z => z = b) b rfl _ _ (HO3.out.wide (fun _ h => h.elim))⟩
set_option maxRecDepth 100000 in
set_option maxHeartbeats 4000000 in
theorem upd_c (b k R n c : Nat) (O x : Cn) (w : World) (h : Room w b 73) (hk : k < 4) (ho : CAt w b k O) (hn : n ≤ 4096) (e1 : (O.t1.kd != 0) = true) (e2 : x.sg = true) (e3 : O.sg = false) :
    Calls Tryd.prog 25 #[.pointer (some ⟨b, 0, none⟩), .slice (some ⟨R, 0, none⟩) n c, .int .i64 k, x.val] w (PutP (fun z => z = b) b k x w) := by
  have H := Lib.hid h
  have hbl : b < w.heap.size := h.lt (by omega)
  have HO := Lib.hid (fun o => Seg.after ho (ba w o))
  have HN := Lib.hid (fun (o1 : Obj) => (by have := Room.newN (w.alloc o1) zCn (n := 18) rfl 66; simpa using this : Room ((w.alloc o1).alloc (.cells zCn 66)) (w.heap.size + 1) 18))
  have k0 : (0 : Int) ≤ k := by omega
  have k1 : (k : Int) < 4 := by omega
  have ex : Hid (Seg (w.alloc (.cells (cnL x).toArray 66)) w.heap.size 0 (cnL x)) := Lib.hid (Seg.new w (cnL x) 66)
  clear h ho
  have E2 := Lib.hid e2
  have E3 := Lib.hid e3
  clear e2 e3
  go_enter Tryd.func25, Tryd.ntmps25
  go_upto_region 2 with (first | ((with_reducible refine wpList_at (o := ⟨some 14, .load 66 (.tmp 13), _, _, _, _⟩) ?_); refine wpList_load_seg (op := ⟨some 14, .load 66 (.tmp 13), _, _, _, _⟩) rfl 66 (.tmp 13) rfl b (k * 18) rfl (cnL O) _ Tryd.underlying66 rfl (i66 O) (HO.out _) ?_) | ((with_reducible refine wpList_at (o := ⟨none, .store 66 (.tmp 8) (.tmp 14), _, _, _, _⟩) ?_); refine wpList_store_room (op := ⟨none, .store 66 (.tmp 8) (.tmp 14), _, _, _, _⟩) rfl 66 (.tmp 8) (.tmp 14) rfl (w.heap.size + 1) 0 18 (cnL O) (HN.out _) (l18 O) rfl rfl (i66 O) (cnL_one O) ?_; intro W2 hW2))
  have hA : Below w.heap.size w W2 := by
    rw [hW2]
    exact (Only.setCells (S := fun z => z = w.heap.size + 1) _ rfl _ _ (Only.of ((ba w _).trans ((ba _ _).mono (by simp))))).below w.heap.size (Nat.le_refl _) (fun z e => by subst e; omega)
  have sO : Seg W2 (w.heap.size + 1) 0 (cnL O) := by rw [hW2]; exact Seg.put (HN.out _) (l18 O)
  have sx : Seg W2 w.heap.size 0 (cnL x) := by
    rw [hW2]
    exact (Seg.after ex.out (ba _ _)).only (Only.setCells (S := fun z => z = w.heap.size + 1) _ rfl _ _ (Only.refl _)) (by omega)
  have o5 : W2.cell? ⟨w.heap.size + 1, 5, none⟩ = some (.int .u8 O.t1.kd) := sO 5 _ rfl
  have o15 : W2.cell? ⟨w.heap.size + 1, 15, none⟩ = some (.int .u8 O.st) := sO 15 _ rfl
  have o16 : W2.cell? ⟨w.heap.size + 1, 16, none⟩ = some (.int .u32 O.ix) := sO 16 _ rfl
  have o17 : W2.cell? ⟨w.heap.size + 1, 17, none⟩ = some (.bool false) := by rw [← E3.out]; exact sO 17 _ rfl
  have x15 : W2.cell? ⟨w.heap.size, 15, none⟩ = some (.int .u8 x.st) := sx 15 _ rfl
  have x17 : W2.cell? ⟨w.heap.size, 17, none⟩ = some (.bool true) := by rw [← E2.out]; exact sx 17 _ rfl
  clear hW2 HN HO ex sO
  replace sx := Lib.hid sx
  replace hA := Lib.hid hA
  have H2 := Lib.hid (H.out.after hA.out)
  have HO2 : Hid (Only (fun z => False) w W2) := Lib.hid (Only.of hA.out)
  generalize hP : w.heap.size = P at *
  replace hP := Lib.hid hP
  go_upto_region 4 with fail
  have y0 : ∀ d os, (Sort.grow (redrawn W2 d) os).cell? ⟨P, 0, none⟩ = some (.pointer none) := fun d os => cell_regrown (sx.out 0 _ rfl) d os
  have y1 : ∀ d os, (Sort.grow (redrawn W2 d) os).cell? ⟨P, 1, none⟩ = some (.string x.t1.tx) := fun d os => cell_regrown (sx.out 1 _ rfl) d os
  have y2 : ∀ d os, (Sort.grow (redrawn W2 d) os).cell? ⟨P, 2, none⟩ = some (.int .i32 x.t1.lo) := fun d os => cell_regrown (sx.out 2 _ rfl) d os
  have y3 : ∀ d os, (Sort.grow (redrawn W2 d) os).cell? ⟨P, 3, none⟩ = some (.int .u32 x.t1.pl) := fun d os => cell_regrown (sx.out 3 _ rfl) d os
  have y4 : ∀ d os, (Sort.grow (redrawn W2 d) os).cell? ⟨P, 4, none⟩ = some (.int .u16 x.t1.uo) := fun d os => cell_regrown (sx.out 4 _ rfl) d os
  have y5 : ∀ d os, (Sort.grow (redrawn W2 d) os).cell? ⟨P, 5, none⟩ = some (.int .u8 x.t1.kd) := fun d os => cell_regrown (sx.out 5 _ rfl) d os
  have y6 : ∀ d os, (Sort.grow (redrawn W2 d) os).cell? ⟨P, 6, none⟩ = some (.int .u8 x.t1.ws) := fun d os => cell_regrown (sx.out 6 _ rfl) d os
  have y7 : ∀ d os, (Sort.grow (redrawn W2 d) os).cell? ⟨P, 7, none⟩ = some (.pointer none) := fun d os => cell_regrown (sx.out 7 _ rfl) d os
  have y8 : ∀ d os, (Sort.grow (redrawn W2 d) os).cell? ⟨P, 8, none⟩ = some (.string x.t2.tx) := fun d os => cell_regrown (sx.out 8 _ rfl) d os
  have y9 : ∀ d os, (Sort.grow (redrawn W2 d) os).cell? ⟨P, 9, none⟩ = some (.int .i32 x.t2.lo) := fun d os => cell_regrown (sx.out 9 _ rfl) d os
  have y10 : ∀ d os, (Sort.grow (redrawn W2 d) os).cell? ⟨P, 10, none⟩ = some (.int .u32 x.t2.pl) := fun d os => cell_regrown (sx.out 10 _ rfl) d os
  have y11 : ∀ d os, (Sort.grow (redrawn W2 d) os).cell? ⟨P, 11, none⟩ = some (.int .u16 x.t2.uo) := fun d os => cell_regrown (sx.out 11 _ rfl) d os
  have y12 : ∀ d os, (Sort.grow (redrawn W2 d) os).cell? ⟨P, 12, none⟩ = some (.int .u8 x.t2.kd) := fun d os => cell_regrown (sx.out 12 _ rfl) d os
  have y13 : ∀ d os, (Sort.grow (redrawn W2 d) os).cell? ⟨P, 13, none⟩ = some (.int .u8 x.t2.ws) := fun d os => cell_regrown (sx.out 13 _ rfl) d os
  have y14 : ∀ d os, (Sort.grow (redrawn W2 d) os).cell? ⟨P, 14, none⟩ = some (.string x.un) := fun d os => cell_regrown (sx.out 14 _ rfl) d os
  have y15 : ∀ d os, (Sort.grow (redrawn W2 d) os).cell? ⟨P, 15, none⟩ = some (.int .u8 x.st) := fun d os => cell_regrown (sx.out 15 _ rfl) d os
  have y16 : ∀ d os, (Sort.grow (redrawn W2 d) os).cell? ⟨P, 16, none⟩ = some (.int .u32 x.ix) := fun d os => cell_regrown (sx.out 16 _ rfl) d os
  have y17 : ∀ d os, (Sort.grow (redrawn W2 d) os).cell? ⟨P, 17, none⟩ = some (.bool x.sg) := fun d os => cell_regrown (sx.out 17 _ rfl) d os
  refine drawn_tail 6 (by kernel_rfl) (by kernel_rfl) (by kernel_rfl) (fun Q hQ => ?_)
  simp only [List.take_succ_cons, List.take_zero, List.drop_succ_cons, List.drop_zero]
  repeat (quiet_step (fail))
  refine wpQuiet_nil ?_
  intro W3 hw
  have hb3 : Below W2.heap.size W2 W3 := by
    obtain ⟨⟨d, os⟩, rfl⟩ := hw
    exact below_regrown _ d os
  have H3 := Lib.hid (H2.out.after hb3)
  have HO3 := Lib.hid (HO2.out.trans (Only.of hb3))
  clear hw hb3 y0 y1 y2 y3 y4 y5 y6 y7 y8 y9 y10 y11 y12 y13 y14 y15 y16 y17
  go_wp2_with ((with_reducible refine wpList_at (o := ⟨none, .store 66 (.tmp 50) (.tmp 47), _, _, _, _⟩) ?_); refine wpList_store_room (op := ⟨none, .store 66 (.tmp 50) (.tmp 47), _, _, _, _⟩) rfl 66 (.tmp 50) (.tmp 47) rfl b (k * 18) 73 (cnL x) H3.out (l73 x hk) rfl rfl (i66 x) (cnL_one x) ?_; intro W4 hW4)
  subst hW4
  exact bodyPost_end (v := .tuple #[]) (by simp [results, Tryd.results25, go_sem]) rfl ⟨rfl, Put.mk' HO3.out id H.out hk, Only.setCells (S := fun z => z = b) b rfl _ _ (HO3.out.wide (fun _ h => h.elim))⟩
end Go.Proofs.YthdogpahkglaoaaDoor

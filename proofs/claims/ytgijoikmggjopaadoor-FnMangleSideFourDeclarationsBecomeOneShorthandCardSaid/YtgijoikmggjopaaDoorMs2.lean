/- FnMangleSide: the tracker of sides. -/
import Derived.Test.YtgijoikmggjopaaDoorMs1
set_option linter.unusedVariables false
set_option linter.unusedSimpArgs false
namespace Go.Proofs.YtgijoikmggjopaaDoor
open Go.RowKit
/-- a side; its token has no children -/
structure Sd where
  t : Tk
  un : ByteArray
  st : Int
  ix : Int
  sg : Bool
abbrev cnL (x : Sd) : List Value := [.pointer none, .string x.t.tx, .int .i32 x.t.lo, .int .u32 x.t.pl, .int .u16 x.t.uo, .int .u8 x.t.kd, .int .u8 x.t.ws, .string x.un, .int .u8 x.st, .int .u32 x.ix, .bool x.sg]
abbrev Sd.val (x : Sd) : Value := .agg #[.pointer none, .string x.t.tx, .int .i32 x.t.lo, .int .u32 x.t.pl, .int .u16 x.t.uo, .int .u8 x.t.kd, .int .u8 x.t.ws, .string x.un, .int .u8 x.st, .int .u32 x.ix, .bool x.sg]
theorem cnL_one (x : Sd) : ∀ v ∈ cnL x, v.oneCell' = true := by
  intro v hv
  simp only [List.mem_cons, List.not_mem_nil, or_false] at hv
  rcases hv with rfl | rfl | rfl | rfl | rfl | rfl | rfl | rfl | rfl | rfl | rfl <;> rfl
abbrev CAt (w : World) (b k : Nat) (x : Sd) : Prop := Seg w b (1 + k * 11) (cnL x)
/-- side k of the tracker at b is x now, all else is as it was -/
structure Put (b k : Nat) (x : Sd) (w w' : World) : Prop where
  side : CAt w' b k x
  oth : ∀ s X, s ≠ k → CAt w b s X → CAt w' b s X
  rest : ∀ j, (j = 0 ∨ 45 ≤ j) → j < 48 → w'.cell? ⟨b, j, none⟩ = w.cell? ⟨b, j, none⟩
  room : Room w' b 48
theorem Put.mk' {b k : Nat} {x : Sd} {w W : World} {T : Nat → Prop} (hW : Only T w W) (hT : ¬ T b) (hr : Room w b 48) (hk : k < 4) : Put b k x w (W.setCells b (1 + k * 11) (cnL x)) := by
  have hR := hW.room hr hT
  refine ⟨Seg.put hR (by simp; omega), fun s X hs hX => (hX.only hW hT).far (by simp; omega), fun j hj hj2 => ?_, Room.setCells _ _ _ _ hR⟩
  rw [setCells_out (by simp; omega)]
  obtain ⟨v, hv, -⟩ := hr j hj2
  rw [hW.keep hv hT, hv]
def PutP (T : Nat → Prop) (b k : Nat) (x : Sd) (w : World) (e : Ending) (w' : World) : Prop := e = .returned (.tuple #[]) ∧ Put b k x w w' ∧ Only T w w'
theorem i62 (x : Sd) : (Tryd.prog.info? 62).map (·.size) = some (cnL x).length := (by kernel_rfl : (Tryd.prog.info? 62).map (·.size) = some 11)
theorem l11 (x : Sd) : 0 + (cnL x).length ≤ 11 := Nat.le_refl _
theorem l48 (x : Sd) {k : Nat} (hk : k < 4) : 1 + k * 11 + (cnL x).length ≤ 48 := by show 1 + k * 11 + 11 ≤ 48; omega
abbrev zSd : Array Value := #[.pointer none, .string ⟨#[]⟩, .int .i32 0, .int .u32 0, .int .u16 0, .int .u8 0, .int .u8 0, .string ⟨#[]⟩, .int .u8 0, .int .u32 0, .bool false]
set_option maxRecDepth 100000 in
set_option maxHeartbeats 4000000 in
theorem upd_a (b k R n c : Nat) (O x : Sd) (w : World) (h : Room w b 48) (hk : k < 4) (ho : CAt w b k O) (hn : n ≤ 4096) (e1 : (O.t.kd != 0) = false) :
    Calls Tryd.prog 20 #[.pointer (some ⟨b, 0, none⟩), .slice (some ⟨R, 0, none⟩) n c, .int .i64 k, x.val] w (PutP (fun z => z = b) b k x w) := by
  have H := Lib.hid h
  have hbl : b < w.heap.size := h.lt (by omega)
  have HO := Lib.hid (fun o => Seg.after ho (ba w o))
  have HN := Lib.hid (fun (o1 : Obj) => (by have := Room.newN (w.alloc o1) zSd (n := 11) rfl 62; simpa using this : Room ((w.alloc o1).alloc (.cells zSd 62)) (w.heap.size + 1) 11))
  have k0 : (0 : Int) ≤ k := by omega
  have k1 : (k : Int) < 4 := by omega
  have ex : Hid (Seg (w.alloc (.cells (cnL x).toArray 62)) w.heap.size 0 (cnL x)) := Lib.hid (Seg.new w (cnL x) 62)
  clear h ho
  go_enter Tryd.func20, Tryd.ntmps20
  go_upto_region 2 with (first | ((with_reducible refine wpList_at (o := ⟨some 14, .load 62 (.tmp 13), _, _, _, _⟩) ?_); refine wpList_load_seg (op := ⟨some 14, .load 62 (.tmp 13), _, _, _, _⟩) rfl 62 (.tmp 13) rfl b (1 + k * 11) rfl (cnL O) _ Tryd.underlying62 rfl (i62 O) (HO.out _) ?_) | ((with_reducible refine wpList_at (o := ⟨none, .store 62 (.tmp 8) (.tmp 14), _, _, _, _⟩) ?_); refine wpList_store_room (op := ⟨none, .store 62 (.tmp 8) (.tmp 14), _, _, _, _⟩) rfl 62 (.tmp 8) (.tmp 14) rfl (w.heap.size + 1) 0 11 (cnL O) (HN.out _) (l11 O) rfl rfl (i62 O) (cnL_one O) ?_; intro W2 hW2))
  have hA : Below w.heap.size w W2 := by
    rw [hW2]
    exact (Only.setCells (S := fun z => z = w.heap.size + 1) _ rfl _ _ (Only.of ((ba w _).trans ((ba _ _).mono (by simp))))).below w.heap.size (Nat.le_refl _) (fun z e => by subst e; omega)
  have sO : Seg W2 (w.heap.size + 1) 0 (cnL O) := by rw [hW2]; exact Seg.put (HN.out _) (l11 O)
  have sx : Seg W2 w.heap.size 0 (cnL x) := by
    rw [hW2]
    exact (Seg.after ex.out (ba _ _)).only (Only.setCells (S := fun z => z = w.heap.size + 1) _ rfl _ _ (Only.refl _)) (by omega)
  have o5 : W2.cell? ⟨w.heap.size + 1, 5, none⟩ = some (.int .u8 O.t.kd) := sO 5 _ rfl
  have o8 : W2.cell? ⟨w.heap.size + 1, 8, none⟩ = some (.int .u8 O.st) := sO 8 _ rfl
  have o9 : W2.cell? ⟨w.heap.size + 1, 9, none⟩ = some (.int .u32 O.ix) := sO 9 _ rfl
  have o10 : W2.cell? ⟨w.heap.size + 1, 10, none⟩ = some (.bool O.sg) := sO 10 _ rfl
  have x8 : W2.cell? ⟨w.heap.size, 8, none⟩ = some (.int .u8 x.st) := sx 8 _ rfl
  have x10 : W2.cell? ⟨w.heap.size, 10, none⟩ = some (.bool x.sg) := sx 10 _ rfl
  clear hW2 HN HO ex sO
  replace sx := Lib.hid sx
  replace hA := Lib.hid hA
  have H2 := Lib.hid (H.out.after hA.out)
  have HO2 : Hid (Only (fun z => False) w W2) := Lib.hid (Only.of hA.out)
  generalize hP : w.heap.size = P at *
  replace hP := Lib.hid hP
  go_upto_region 4 with fail
  have y0 : ∀ d os, (Sort.grow (redrawn W2 d) os).cell? ⟨P, 0, none⟩ = some (.pointer none) := fun d os => cell_regrown (sx.out 0 _ rfl) d os
  have y1 : ∀ d os, (Sort.grow (redrawn W2 d) os).cell? ⟨P, 1, none⟩ = some (.string x.t.tx) := fun d os => cell_regrown (sx.out 1 _ rfl) d os
  have y2 : ∀ d os, (Sort.grow (redrawn W2 d) os).cell? ⟨P, 2, none⟩ = some (.int .i32 x.t.lo) := fun d os => cell_regrown (sx.out 2 _ rfl) d os
  have y3 : ∀ d os, (Sort.grow (redrawn W2 d) os).cell? ⟨P, 3, none⟩ = some (.int .u32 x.t.pl) := fun d os => cell_regrown (sx.out 3 _ rfl) d os
  have y4 : ∀ d os, (Sort.grow (redrawn W2 d) os).cell? ⟨P, 4, none⟩ = some (.int .u16 x.t.uo) := fun d os => cell_regrown (sx.out 4 _ rfl) d os
  have y5 : ∀ d os, (Sort.grow (redrawn W2 d) os).cell? ⟨P, 5, none⟩ = some (.int .u8 x.t.kd) := fun d os => cell_regrown (sx.out 5 _ rfl) d os
  have y6 : ∀ d os, (Sort.grow (redrawn W2 d) os).cell? ⟨P, 6, none⟩ = some (.int .u8 x.t.ws) := fun d os => cell_regrown (sx.out 6 _ rfl) d os
  have y7 : ∀ d os, (Sort.grow (redrawn W2 d) os).cell? ⟨P, 7, none⟩ = some (.string x.un) := fun d os => cell_regrown (sx.out 7 _ rfl) d os
  have y8 : ∀ d os, (Sort.grow (redrawn W2 d) os).cell? ⟨P, 8, none⟩ = some (.int .u8 x.st) := fun d os => cell_regrown (sx.out 8 _ rfl) d os
  have y9 : ∀ d os, (Sort.grow (redrawn W2 d) os).cell? ⟨P, 9, none⟩ = some (.int .u32 x.ix) := fun d os => cell_regrown (sx.out 9 _ rfl) d os
  have y10 : ∀ d os, (Sort.grow (redrawn W2 d) os).cell? ⟨P, 10, none⟩ = some (.bool x.sg) := fun d os => cell_regrown (sx.out 10 _ rfl) d os
  refine drawn_tail 6 (by kernel_rfl) (by kernel_rfl) (by kernel_rfl) (fun Q hQ => ?_)
  simp only [List.take_succ_cons, List.take_zero, List.drop_succ_cons, List.drop_zero]
  repeat (quiet_step (fail))
  refine wpQuiet_nil ?_
  intro W3 hw
  have hb3 : Below W2.heap.size W2 W3 := by
    obtain ⟨⟨d, os⟩, rfl⟩ := hw
    exact below_regrown _ d os
  have H3 := Lib.hid (H2.out.after hb3)
  have HO3 := Lib.hid (HO2.out.trans (Only.of hb3))
  clear hw hb3 y0 y1 y2 y3 y4 y5 y6 y7 y8 y9 y10
  go_wp2_with ((with_reducible refine wpList_at (o := ⟨none, .store 62 (.tmp 50) (.tmp 47), _, _, _, _⟩) ?_); refine wpList_store_room (op := ⟨none, .store 62 (.tmp 50) (.tmp 47), _, _, _, _⟩) rfl 62 (.tmp 50) (.tmp 47) rfl b (1 + k * 11) 48 (cnL x) H3.out (l48 x hk) rfl rfl (i62 x) (cnL_one x) ?_; intro W4 hW4)
  subst hW4
  exact bodyPost_end (v := .tuple #[]) (by simp [results, Tryd.results20, go_sem]) rfl ⟨rfl, Put.mk' HO3.out id H.out hk, Only.setCells (S := fun z => z = b) b rfl _ _ (HO3.out.wide (fun _ h => h.elim))⟩
theorem Seg.left {w : World} {b o : Nat} {xs ys : List Value} (h : Seg w b o (xs ++ ys)) : Seg w b o xs := fun j v hj => h j v (by rw [List.getElem?_append_left (List.getElem?_eq_some_iff.1 hj).1]; exact hj)
theorem Seg.right {w : World} {b o : Nat} {xs ys : List Value} (h : Seg w b o (xs ++ ys)) : Seg w b (o + xs.length) ys := fun j v hj => by
  rw [Nat.add_assoc]
  exact h (xs.length + j) v (by rw [List.getElem?_append_right (by omega), Nat.add_sub_cancel_left]; exact hj)
/-- a side that nothing is known of -/
def Sd0 : Sd := ⟨tk0, ⟨#[]⟩, 0, 0, false⟩
/-- the tracker at b -/
structure Trk (w : World) (b : Nat) (F : Nat → Sd) (kt : ByteArray) (al imp : Bool) (ky : Int) : Prop where
  cn : ∀ k, k < 4 → CAt w b k (F k)
  ct : w.cell? ⟨b, 0, none⟩ = some (.string kt)
  ca : w.cell? ⟨b, 45, none⟩ = some (.bool al)
  im : w.cell? ⟨b, 46, none⟩ = some (.bool imp)
  ck : w.cell? ⟨b, 47, none⟩ = some (.int .u16 ky)
  room : Room w b 48
theorem Trk.after {w w' : World} {b : Nat} {F : Nat → Sd} {kt : ByteArray} {al imp : Bool} {ky : Int} (h : Trk w b F kt al imp ky) (hb : Below w.heap.size w w') : Trk w' b F kt al imp ky := ⟨fun k hk => (h.cn k hk).after hb, ac hb h.ct, ac hb h.ca, ac hb h.im, ac hb h.ck, h.room.after hb⟩
theorem Trk.only {S : Nat → Prop} {w w' : World} {b : Nat} {F : Nat → Sd} {kt : ByteArray} {al imp : Bool} {ky : Int} (h : Trk w b F kt al imp ky) (ho : Only S w w') (hs : ¬ S b) : Trk w' b F kt al imp ky := ⟨fun k hk => (h.cn k hk).only ho hs, ho.keep h.ct hs, ho.keep h.ca hs, ho.keep h.im hs, ho.keep h.ck hs, ho.room h.room hs⟩
def upF (F : Nat → Sd) (k : Nat) (x : Sd) : Nat → Sd := fun s => if s = k then x else F s
theorem Trk.put {w w' : World} {b k : Nat} {F : Nat → Sd} {kt : ByteArray} {al imp : Bool} {ky : Int} {x : Sd} (h : Trk w b F kt al imp ky) (hp : Put b k x w w') : Trk w' b (upF F k x) kt al imp ky := ⟨fun s hs => by
  unfold upF
  by_cases e : s = k
  · subst e; rw [if_pos rfl]; exact hp.side
  · rw [if_neg e]; exact hp.oth s _ e (h.cn s hs), by rw [hp.rest _ (by omega) (by omega)]; exact h.ct, by rw [hp.rest _ (by omega) (by omega)]; exact h.ca, by rw [hp.rest _ (by omega) (by omega)]; exact h.im, by rw [hp.rest _ (by omega) (by omega)]; exact h.ck, hp.room⟩
abbrev trkL (F : Nat → Sd) (kt : ByteArray) (al imp : Bool) (ky : Int) : List Value := [.string kt] ++ (cnL (F 0) ++ (cnL (F 1) ++ (cnL (F 2) ++ (cnL (F 3) ++ [.bool al, .bool imp, .int .u16 ky]))))
theorem Trk.of_seg {w : World} {b : Nat} {F : Nat → Sd} {kt : ByteArray} {al imp : Bool} {ky : Int} (h : Seg w b 0 (trkL F kt al imp ky)) (hr : Room w b 48) : Trk w b F kt al imp ky := by
  have h0 := h.right
  have h1 := h0.right
  have h2 := h1.right
  have h3 := h2.right
  have h4 := h3.right
  refine ⟨fun k hk => ?_, h.left 0 _ rfl, h4 0 _ rfl, h4 1 _ rfl, h4 2 _ rfl, hr⟩
  match k, hk with
  | 0, _ => exact h0.left
  | 1, _ => exact h1.left
  | 2, _ => exact h2.left
  | 3, _ => exact h3.left
set_option maxRecDepth 100000 in
set_option maxHeartbeats 4000000 in
theorem new_c (kt : ByteArray) (al : Bool) (ky : Int) (w : World) : Calls Tryd.prog 5 #[.int .u16 ky, .string kt, .bool al, .bool false] w (fun e w' => e = .returned (.pointer (some ⟨w.heap.size, 0, none⟩)) ∧ Below w.heap.size w w' ∧ Trk w' w.heap.size (fun _ => Sd0) kt al false ky ∧ w.heap.size < w'.heap.size) := by
  go_enter Tryd.func5, Tryd.ntmps5
  go_wp2
  go_ret
  refine ⟨rfl, ba _ _, ?_, by simp⟩
  exact Trk.of_seg (Seg.new w (trkL (fun _ => Sd0) kt al false ky) _) (Room.newN _ _ rfl _)
end Go.Proofs.YtgijoikmggjopaaDoor

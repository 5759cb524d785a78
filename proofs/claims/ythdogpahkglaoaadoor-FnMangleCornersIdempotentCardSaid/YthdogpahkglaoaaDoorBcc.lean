/- expandTokenQuad. -/
import Derived.Test.YthdogpahkglaoaaDoorBc1
import Derived.Test.YthdogpahkglaoaaDoorSeg
import Derived.Test.YthdogpahkglaoaaDoorMk
import Derived.Laws.ResultCell
set_option linter.unusedVariables false
set_option linter.unusedSimpArgs false
namespace Go.Proofs.YthdogpahkglaoaaDoor
open Go.RowKit
/-- a token's cells; it has no children -/
abbrev tkL (t : Tk) : List Value := [.pointer none, .string t.tx, .int .i32 t.lo, .int .u32 t.pl, .int .u16 t.uo, .int .u8 t.kd, .int .u8 t.ws]
abbrev quadL (G : Nat → Tk) : List Value := tkL (G 0) ++ (tkL (G 1) ++ (tkL (G 2) ++ tkL (G 3)))
theorem i32k (t : Tk) : (Tryd.prog.info? 32).map (·.size) = some (tkL t).length := (by kernel_rfl : (Tryd.prog.info? 32).map (·.size) = some 7)
theorem tkL_one (t : Tk) : ∀ v ∈ tkL t, v.oneCell' = true := by
  intro v hv
  simp only [List.mem_cons, List.not_mem_nil, or_false] at hv
  rcases hv with rfl | rfl | rfl | rfl | rfl | rfl | rfl <;> rfl
theorem TAt.seg {w : World} {T o : Nat} {t : Tk} (h : TAt w T o t) (hc : t.ch = .pointer none) : Seg w T o (tkL t) := fun j v hj => by
  obtain ⟨c0, c1, c2, c3, c4, c5, c6⟩ := h
  match j, hj with
  | 0, hj => cases hj; rw [← hc]; exact c0
  | 1, hj => cases hj; exact c1
  | 2, hj => cases hj; exact c2
  | 3, hj => cases hj; exact c3
  | 4, hj => cases hj; exact c4
  | 5, hj => cases hj; exact c5
  | 6, hj => cases hj; exact c6
theorem Seg.tat {w : World} {T o : Nat} {t : Tk} (h : Seg w T o (tkL t)) (hc : t.ch = .pointer none) : TAt w T o t :=
  ⟨by rw [hc]; exact h 0 _ rfl, h 1 _ rfl, h 2 _ rfl, h 3 _ rfl, h 4 _ rfl, h 5 _ rfl, h 6 _ rfl⟩
/-- what a list of n tokens says of the four -/
def xq (n : Nat) (F : Nat → Tk) (i : Nat) : Tk := if i = 0 then F 0 else if i = 1 then (if 1 < n then F 1 else F 0) else if i = 2 then (if 2 < n then F 2 else F 0) else (if 3 < n then F 3 else if 1 < n then F 1 else F 0)
/-- the first j of the four are laid -/
structure PQ (w W : World) (P : Nat) (G : Nat → Tk) (j : Nat) : Prop where
  seg : ∀ s, s < j → Seg W P (s * 7) (tkL (G s))
  room : Room W P 28
  only : Only (fun z => z = P) w W
theorem PQ.step {w W W' : World} {P : Nat} {G : Nat → Tk} {j : Nat} (h : PQ w W P G j) (hj : j < 4) (hW : W' = W.setCells P (j * 7) (tkL (G j))) : PQ w W' P G (j + 1) := by
  subst hW
  refine ⟨fun s hs => ?_, Room.setCells _ _ _ _ h.room, Only.setCells (S := fun z => z = P) P rfl _ _ h.only⟩
  by_cases e : s = j
  · subst e; exact Seg.put h.room (by show s * 7 + 7 ≤ 28; omega)
  · exact (h.seg s (by omega)).far (by show s * 7 + 7 ≤ j * 7 ∨ j * 7 + 7 ≤ s * 7; omega)
theorem PQ.after {w W W' : World} {P : Nat} {G : Nat → Tk} {j : Nat} (h : PQ w W P G j) (hb : Below W.heap.size W W') : PQ w W' P G j :=
  ⟨fun s hs => (h.seg s hs).after hb, h.room.after hb, h.only.trans (Only.of hb)⟩
theorem PQ.full {w W : World} {P : Nat} {G : Nat → Tk} (h : PQ w W P G 4) : Seg W P 0 (quadL G) := by
  have h0 := h.seg 0 (by omega); have h1 := h.seg 1 (by omega); have h2 := h.seg 2 (by omega); have h3 := h.seg 3 (by omega)
  intro j v hj
  rw [Nat.zero_add]
  have hl : j < 28 := by have := (List.getElem?_eq_some_iff.1 hj).1; simpa using this
  by_cases c1 : j < 7
  · rw [List.getElem?_append_left (by simpa using c1)] at hj; have := h0 j v hj; rwa [Nat.zero_mul, Nat.zero_add] at this
  rw [List.getElem?_append_right (by simpa using c1)] at hj
  by_cases c2 : j < 14
  · rw [List.getElem?_append_left (by simp; omega)] at hj; have := h1 _ v hj; rw [← this]; congr 2; simp; omega
  rw [List.getElem?_append_right (by simp; omega)] at hj
  by_cases c3 : j < 21
  · rw [List.getElem?_append_left (by simp; omega)] at hj; have := h2 _ v hj; rw [← this]; congr 2; simp; omega
  rw [List.getElem?_append_right (by simp; omega)] at hj
  have := h3 _ v hj; rw [← this]; congr 2; simp; omega
theorem run80 (w : World) (P : Nat) (G : Nat → Tk) (h : Seg w P 0 (quadL G)) : (loadVar 80 ⟨P, 0, none⟩).run Tryd.prog w = .ok (.agg (quadL G).toArray) w :=
  run_loadVar_seg w P 0 80 (quadL G) _ Tryd.underlying80 rfl (by kernel_rfl : (Tryd.prog.info? 80).map (·.size) = some 28) h

theorem results_seg {fn : Func} {p u : Tmp} {ty : TypeId} {P : Program} {tmps : Array Value} {w : World} {b : Nat} {vs : Array Value} {v : Value} (h : fn.results = #[.cell p ty, .tmp u]) (hp : tmps.getD p undef = .pointer (some ⟨b, 0, none⟩)) (hl : (loadVar ty ⟨b, 0, none⟩).run P w = .ok (.agg vs) w) (hu : tmps.getD u undef = v) : (results fn tmps).run P w = .ok (.tuple #[.agg vs, v]) w := by
  rw [results_cell_tmp h, hp, hu]
  simp only [asAddr, Sem.run_pure, Result.andThen_ok, hl]
theorem Seg.cast {w : World} {T o o' : Nat} {vs : List Value} (h : Seg w T o vs) (e : o = o') : Seg w T o' vs := e ▸ h
def GQ (G : Nat → Tk) (b : Bool) (w : World) (e : Ending) (w' : World) : Prop := e = .returned (.tuple #[.agg (quadL G).toArray, .bool b]) ∧ Below w.heap.size w w'
set_option maxRecDepth 100000 in
set_option maxHeartbeats 4000000 in
theorem exq_ok1 (T o c : Nat) (F : Nat → Tk) (w : World) (hF : ∀ i, i < 1 → TAt w T (o + i * 7) (F i)) (hc : ∀ i, i < 1 → (F i).ch = .pointer none) (hk : ∀ i, i < 1 → ((F i).kd == 30 || (F i).kd == 34 || (F i).kd == 26) = true) :
    Calls Tryd.prog 27 #[.slice (some ⟨T, o, none⟩) 1 c, .string ⟨#[]⟩] w (GQ (xq 1 F) true w) := by
  have HF := Lib.hid (fun i hi => (hF i hi).seg (hc i hi))
  have HK := Lib.hid hk
  have hTl : T < w.heap.size := block_lt_of_cell (hF 0 (by omega)).c0
  have C21 := Lib.hid (fun k w => num_c k w)
  clear hF hc hk
  go_enter Tryd.func27, Tryd.ntmps27
  go_upto_region 4 with fail
  refine wp_gen (fun W hW => ?_)
  have hb : Hid (Below w.heap.size w W) := Lib.hid (by rw [hW]; exact ba _ _)
  have RP : Hid (Room W w.heap.size 28) := Lib.hid (by rw [hW]; exact Room.newN _ _ rfl _)
  clear hW
  generalize hP : w.heap.size = P at RP ⊢
  replace hP := Lib.hid hP
  have hTP : T < P := by have := hP.out; omega
  have hF0 : Hid (∀ i, i < 1 → Seg W T (o + i * 7) (tkL (F i))) := Lib.hid (fun i hi => (HF.out i hi).after (by have := hb.out; rw [hP.out] at this; rw [hP.out]; exact this))
  clear HF
  go_loopw [7] (fun v wr => ∃ i : Nat, i ≤ 1 ∧ v = .int .i64 i ∧ Below W.heap.size W wr) (fun v _ => 1 - (intOf v).toNat)
  case atStart => exact ⟨0, by omega, rfl, Below.refl _ _⟩
  case round =>
    obtain ⟨i, hi, rfl, hB⟩ := hrel
    obtain ⟨w1, rfl⟩ : ∃ w1 : World, w1 = wr := ⟨_, rfl⟩
    replace hB := Lib.hid hB
    by_cases hlt : i < 1
    · have i0 : (0 : Int) ≤ i := by omega
      have i1 : (i : Int) < 1 := by omega
      have sg := Lib.hid ((hF0.out i hlt).after hB.out)
      have hkk := HK.out i hlt
      have d0 : w1.cell? ⟨T, o + i * 7, none⟩ = some (.pointer none) := sg.out 0 _ rfl
      have d1 : w1.cell? ⟨T, o + i * 7 + 1, none⟩ = some (.string (F i).tx) := sg.out 1 _ rfl
      have d2 : w1.cell? ⟨T, o + i * 7 + 2, none⟩ = some (.int .i32 (F i).lo) := sg.out 2 _ rfl
      have d3 : w1.cell? ⟨T, o + i * 7 + 3, none⟩ = some (.int .u32 (F i).pl) := sg.out 3 _ rfl
      have d4 : w1.cell? ⟨T, o + i * 7 + 4, none⟩ = some (.int .u16 (F i).uo) := sg.out 4 _ rfl
      have d5 : w1.cell? ⟨T, o + i * 7 + 5, none⟩ = some (.int .u8 (F i).kd) := sg.out 5 _ rfl
      have d6 : w1.cell? ⟨T, o + i * 7 + 6, none⟩ = some (.int .u8 (F i).ws) := sg.out 6 _ rfl
      have C := Lib.hid (fun w => (by have := C21.out (F i).kd w; rwa [hkk] at this : Calls Tryd.prog 21 #[.int .u8 (F i).kd] w (fun e w' => e = .returned (.bool true) ∧ w = w')))
      clear hkk
      go_wp2_with (go_at_call 21; (with_reducible refine (C.out _).mono ?_); rintro e wz ⟨rfl, rfl⟩)
      go_roundw
      case rel => exact ⟨i + 1, by omega, by go_num, hB.out.trans (by repeat (first | exact (ba _ _).mono hB.out.size | refine Below.setCell ?_ (by simp; exact hB.out.size) _))⟩
      case measure => simp [intOf]; omega
    · obtain rfl : i = 1 := by omega
      have p0 : Hid (PQ w w1 P (xq 1 F) 0) := Lib.hid ⟨fun s hs => by omega, RP.out.after hB.out, Only.of (by have h1 := hb.out; have h2 := h1.trans (hB.out.mono h1.size); have h3 := hP.out; rw [h3] at h2 ⊢; exact h2)⟩
      have hF1 : Hid (∀ i, i < 1 → Seg w1 T (o + i * 7) (tkL (F i))) := Lib.hid (fun i hi => (hF0.out i hi).after hB.out)
      clear RP hF0 C21 HK
      go_wp2_with (first | ((with_reducible refine wpList_at (o := ⟨some 47, .load 32 (.tmp 46), _, _, _, _⟩) ?_); refine wpList_load_seg (op := ⟨some 47, .load 32 (.tmp 46), _, _, _, _⟩) rfl 32 (.tmp 46) rfl T o rfl (tkL (F 0)) _ Tryd.underlying32 rfl (i32k (F 0)) ((hF1.out 0 (by omega)).cast (by omega)) ?_) | ((with_reducible refine wpList_at (o := ⟨none, .store 32 (.tmp 48) (.tmp 47), _, _, _, _⟩) ?_); refine wpList_store_room (op := ⟨none, .store 32 (.tmp 48) (.tmp 47), _, _, _, _⟩) rfl 32 (.tmp 48) (.tmp 47) rfl P 0 28 (tkL (F 0)) p0.out.room (by show _ + 7 ≤ 28; omega) rfl rfl (i32k (F 0)) (tkL_one (F 0)) ?_; intro w2 hWw2; have p1 : Hid (PQ w w2 P (xq 1 F) 1) := Lib.hid (p0.out.step (by omega) hWw2); replace hF1 : Hid (∀ i, i < 1 → Seg w2 T (o + i * 7) (tkL (F i))) := Lib.hid (fun i hi => (hF1.out i hi).only (by rw [hWw2]; exact Only.setCells (S := fun z => z = P) P rfl _ _ (Only.refl _)) (by omega)); clear hWw2 p0) | ((with_reducible refine wpList_at (o := ⟨some 56, .load 32 (.tmp 55), _, _, _, _⟩) ?_); refine wpList_load_seg (op := ⟨some 56, .load 32 (.tmp 55), _, _, _, _⟩) rfl 32 (.tmp 55) rfl P 0 rfl (tkL ((xq 1 F) 0)) _ Tryd.underlying32 rfl (i32k ((xq 1 F) 0)) ((p1.out.seg 0 (by omega)).cast (by omega)) ?_) | ((with_reducible refine wpList_at (o := ⟨none, .store 32 (.tmp 57) (.tmp 56), _, _, _, _⟩) ?_); refine wpList_store_room (op := ⟨none, .store 32 (.tmp 57) (.tmp 56), _, _, _, _⟩) rfl 32 (.tmp 57) (.tmp 56) rfl P 7 28 (tkL ((xq 1 F) 0)) p1.out.room (by show _ + 7 ≤ 28; omega) rfl rfl (i32k ((xq 1 F) 0)) (tkL_one ((xq 1 F) 0)) ?_; intro w3 hWw3; have p2 : Hid (PQ w w3 P (xq 1 F) 2) := Lib.hid (p1.out.step (by omega) hWw3); replace hF1 : Hid (∀ i, i < 1 → Seg w3 T (o + i * 7) (tkL (F i))) := Lib.hid (fun i hi => (hF1.out i hi).only (by rw [hWw3]; exact Only.setCells (S := fun z => z = P) P rfl _ _ (Only.refl _)) (by omega)); clear hWw3 p1) | ((with_reducible refine wpList_at (o := ⟨some 65, .load 32 (.tmp 64), _, _, _, _⟩) ?_); refine wpList_load_seg (op := ⟨some 65, .load 32 (.tmp 64), _, _, _, _⟩) rfl 32 (.tmp 64) rfl P 0 rfl (tkL ((xq 1 F) 0)) _ Tryd.underlying32 rfl (i32k ((xq 1 F) 0)) ((p2.out.seg 0 (by omega)).cast (by omega)) ?_) | ((with_reducible refine wpList_at (o := ⟨none, .store 32 (.tmp 66) (.tmp 65), _, _, _, _⟩) ?_); refine wpList_store_room (op := ⟨none, .store 32 (.tmp 66) (.tmp 65), _, _, _, _⟩) rfl 32 (.tmp 66) (.tmp 65) rfl P 14 28 (tkL ((xq 1 F) 0)) p2.out.room (by show _ + 7 ≤ 28; omega) rfl rfl (i32k ((xq 1 F) 0)) (tkL_one ((xq 1 F) 0)) ?_; intro w4 hWw4; have p3 : Hid (PQ w w4 P (xq 1 F) 3) := Lib.hid (p2.out.step (by omega) hWw4); replace hF1 : Hid (∀ i, i < 1 → Seg w4 T (o + i * 7) (tkL (F i))) := Lib.hid (fun i hi => (hF1.out i hi).only (by rw [hWw4]; exact Only.setCells (S := fun z => z = P) P rfl _ _ (Only.refl _)) (by omega)); clear hWw4 p2) | ((with_reducible refine wpList_at (o := ⟨some 74, .load 32 (.tmp 73), _, _, _, _⟩) ?_); refine wpList_load_seg (op := ⟨some 74, .load 32 (.tmp 73), _, _, _, _⟩) rfl 32 (.tmp 73) rfl P 7 rfl (tkL ((xq 1 F) 1)) _ Tryd.underlying32 rfl (i32k ((xq 1 F) 1)) ((p3.out.seg 1 (by omega)).cast (by omega)) ?_) | ((with_reducible refine wpList_at (o := ⟨none, .store 32 (.tmp 75) (.tmp 74), _, _, _, _⟩) ?_); refine wpList_store_room (op := ⟨none, .store 32 (.tmp 75) (.tmp 74), _, _, _, _⟩) rfl 32 (.tmp 75) (.tmp 74) rfl P 21 28 (tkL ((xq 1 F) 1)) p3.out.room (by show _ + 7 ≤ 28; omega) rfl rfl (i32k ((xq 1 F) 1)) (tkL_one ((xq 1 F) 1)) ?_; intro w5 hWw5; have p4 : Hid (PQ w w5 P (xq 1 F) 4) := Lib.hid (p3.out.step (by omega) hWw5); replace hF1 : Hid (∀ i, i < 1 → Seg w5 T (o + i * 7) (tkL (F i))) := Lib.hid (fun i hi => (hF1.out i hi).only (by rw [hWw5]; exact Only.setCells (S := fun z => z = P) P rfl _ _ (Only.refl _)) (by omega)); clear hWw5 p3))
      refine bodyPost_ret (v := .tuple #[.agg (quadL (xq 1 F)).toArray, .bool true]) ?_ rfl ⟨rfl, p4.out.only.below _ (Nat.le_refl _) (fun z e => by have := hP.out; omega)⟩
      exact results_seg rfl rfl (run80 _ P _ p4.out.full) rfl
set_option maxRecDepth 100000 in
set_option maxHeartbeats 4000000 in
theorem exq_ok2 (T o c : Nat) (F : Nat → Tk) (w : World) (hF : ∀ i, i < 2 → TAt w T (o + i * 7) (F i)) (hc : ∀ i, i < 2 → (F i).ch = .pointer none) (hk : ∀ i, i < 2 → ((F i).kd == 30 || (F i).kd == 34 || (F i).kd == 26) = true) :
    Calls Tryd.prog 27 #[.slice (some ⟨T, o, none⟩) 2 c, .string ⟨#[]⟩] w (GQ (xq 2 F) true w) := by
  have HF := Lib.hid (fun i hi => (hF i hi).seg (hc i hi))
  have HK := Lib.hid hk
  have hTl : T < w.heap.size := block_lt_of_cell (hF 0 (by omega)).c0
  have C21 := Lib.hid (fun k w => num_c k w)
  clear hF hc hk
  go_enter Tryd.func27, Tryd.ntmps27
  go_upto_region 4 with fail
  refine wp_gen (fun W hW => ?_)
  have hb : Hid (Below w.heap.size w W) := Lib.hid (by rw [hW]; exact ba _ _)
  have RP : Hid (Room W w.heap.size 28) := Lib.hid (by rw [hW]; exact Room.newN _ _ rfl _)
  clear hW
  generalize hP : w.heap.size = P at RP ⊢
  replace hP := Lib.hid hP
  have hTP : T < P := by have := hP.out; omega
  have hF0 : Hid (∀ i, i < 2 → Seg W T (o + i * 7) (tkL (F i))) := Lib.hid (fun i hi => (HF.out i hi).after (by have := hb.out; rw [hP.out] at this; rw [hP.out]; exact this))
  clear HF
  go_loopw [7] (fun v wr => ∃ i : Nat, i ≤ 2 ∧ v = .int .i64 i ∧ Below W.heap.size W wr) (fun v _ => 2 - (intOf v).toNat)
  case atStart => exact ⟨0, by omega, rfl, Below.refl _ _⟩
  case round =>
    obtain ⟨i, hi, rfl, hB⟩ := hrel
    obtain ⟨w1, rfl⟩ : ∃ w1 : World, w1 = wr := ⟨_, rfl⟩
    replace hB := Lib.hid hB
    by_cases hlt : i < 2
    · have i0 : (0 : Int) ≤ i := by omega
      have i1 : (i : Int) < 2 := by omega
      have sg := Lib.hid ((hF0.out i hlt).after hB.out)
      have hkk := HK.out i hlt
      have d0 : w1.cell? ⟨T, o + i * 7, none⟩ = some (.pointer none) := sg.out 0 _ rfl
      have d1 : w1.cell? ⟨T, o + i * 7 + 1, none⟩ = some (.string (F i).tx) := sg.out 1 _ rfl
      have d2 : w1.cell? ⟨T, o + i * 7 + 2, none⟩ = some (.int .i32 (F i).lo) := sg.out 2 _ rfl
      have d3 : w1.cell? ⟨T, o + i * 7 + 3, none⟩ = some (.int .u32 (F i).pl) := sg.out 3 _ rfl
      have d4 : w1.cell? ⟨T, o + i * 7 + 4, none⟩ = some (.int .u16 (F i).uo) := sg.out 4 _ rfl
      have d5 : w1.cell? ⟨T, o + i * 7 + 5, none⟩ = some (.int .u8 (F i).kd) := sg.out 5 _ rfl
      have d6 : w1.cell? ⟨T, o + i * 7 + 6, none⟩ = some (.int .u8 (F i).ws) := sg.out 6 _ rfl
      have C := Lib.hid (fun w => (by have := C21.out (F i).kd w; rwa [hkk] at this : Calls Tryd.prog 21 #[.int .u8 (F i).kd] w (fun e w' => e = .returned (.bool true) ∧ w = w')))
      clear hkk
      go_wp2_with (go_at_call 21; (with_reducible refine (C.out _).mono ?_); rintro e wz ⟨rfl, rfl⟩)
      go_roundw
      case rel => exact ⟨i + 1, by omega, by go_num, hB.out.trans (by repeat (first | exact (ba _ _).mono hB.out.size | refine Below.setCell ?_ (by simp; exact hB.out.size) _))⟩
      case measure => simp [intOf]; omega
    · obtain rfl : i = 2 := by omega
      have p0 : Hid (PQ w w1 P (xq 2 F) 0) := Lib.hid ⟨fun s hs => by omega, RP.out.after hB.out, Only.of (by have h1 := hb.out; have h2 := h1.trans (hB.out.mono h1.size); have h3 := hP.out; rw [h3] at h2 ⊢; exact h2)⟩
      have hF1 : Hid (∀ i, i < 2 → Seg w1 T (o + i * 7) (tkL (F i))) := Lib.hid (fun i hi => (hF0.out i hi).after hB.out)
      clear RP hF0 C21 HK
      go_wp2_with (first | ((with_reducible refine wpList_at (o := ⟨some 47, .load 32 (.tmp 46), _, _, _, _⟩) ?_); refine wpList_load_seg (op := ⟨some 47, .load 32 (.tmp 46), _, _, _, _⟩) rfl 32 (.tmp 46) rfl T o rfl (tkL (F 0)) _ Tryd.underlying32 rfl (i32k (F 0)) ((hF1.out 0 (by omega)).cast (by omega)) ?_) | ((with_reducible refine wpList_at (o := ⟨none, .store 32 (.tmp 48) (.tmp 47), _, _, _, _⟩) ?_); refine wpList_store_room (op := ⟨none, .store 32 (.tmp 48) (.tmp 47), _, _, _, _⟩) rfl 32 (.tmp 48) (.tmp 47) rfl P 0 28 (tkL (F 0)) p0.out.room (by show _ + 7 ≤ 28; omega) rfl rfl (i32k (F 0)) (tkL_one (F 0)) ?_; intro w2 hWw2; have p1 : Hid (PQ w w2 P (xq 2 F) 1) := Lib.hid (p0.out.step (by omega) hWw2); replace hF1 : Hid (∀ i, i < 2 → Seg w2 T (o + i * 7) (tkL (F i))) := Lib.hid (fun i hi => (hF1.out i hi).only (by rw [hWw2]; exact Only.setCells (S := fun z => z = P) P rfl _ _ (Only.refl _)) (by omega)); clear hWw2 p0) | ((with_reducible refine wpList_at (o := ⟨some 53, .load 32 (.tmp 52), _, _, _, _⟩) ?_); refine wpList_load_seg (op := ⟨some 53, .load 32 (.tmp 52), _, _, _, _⟩) rfl 32 (.tmp 52) rfl T (o + 7) rfl (tkL (F 1)) _ Tryd.underlying32 rfl (i32k (F 1)) ((hF1.out 1 (by omega)).cast (by omega)) ?_) | ((with_reducible refine wpList_at (o := ⟨none, .store 32 (.tmp 54) (.tmp 53), _, _, _, _⟩) ?_); refine wpList_store_room (op := ⟨none, .store 32 (.tmp 54) (.tmp 53), _, _, _, _⟩) rfl 32 (.tmp 54) (.tmp 53) rfl P 7 28 (tkL (F 1)) p1.out.room (by show _ + 7 ≤ 28; omega) rfl rfl (i32k (F 1)) (tkL_one (F 1)) ?_; intro w3 hWw3; have p2 : Hid (PQ w w3 P (xq 2 F) 2) := Lib.hid (p1.out.step (by omega) hWw3); replace hF1 : Hid (∀ i, i < 2 → Seg w3 T (o + i * 7) (tkL (F i))) := Lib.hid (fun i hi => (hF1.out i hi).only (by rw [hWw3]; exact Only.setCells (S := fun z => z = P) P rfl _ _ (Only.refl _)) (by omega)); clear hWw3 p1) | ((with_reducible refine wpList_at (o := ⟨some 65, .load 32 (.tmp 64), _, _, _, _⟩) ?_); refine wpList_load_seg (op := ⟨some 65, .load 32 (.tmp 64), _, _, _, _⟩) rfl 32 (.tmp 64) rfl P 0 rfl (tkL ((xq 2 F) 0)) _ Tryd.underlying32 rfl (i32k ((xq 2 F) 0)) ((p2.out.seg 0 (by omega)).cast (by omega)) ?_) | ((with_reducible refine wpList_at (o := ⟨none, .store 32 (.tmp 66) (.tmp 65), _, _, _, _⟩) ?_); refine wpList_store_room (op := ⟨none, .store 32 (.tmp 66) (.tmp 65), _, _, _, _⟩) rfl 32 (.tmp 66) (.tmp 65) rfl P 14 28 (tkL ((xq 2 F) 0)) p2.out.room (by show _ + 7 ≤ 28; omega) rfl rfl (i32k ((xq 2 F) 0)) (tkL_one ((xq 2 F) 0)) ?_; intro w4 hWw4; have p3 : Hid (PQ w w4 P (xq 2 F) 3) := Lib.hid (p2.out.step (by omega) hWw4); replace hF1 : Hid (∀ i, i < 2 → Seg w4 T (o + i * 7) (tkL (F i))) := Lib.hid (fun i hi => (hF1.out i hi).only (by rw [hWw4]; exact Only.setCells (S := fun z => z = P) P rfl _ _ (Only.refl _)) (by omega)); clear hWw4 p2) | ((with_reducible refine wpList_at (o := ⟨some 74, .load 32 (.tmp 73), _, _, _, _⟩) ?_); refine wpList_load_seg (op := ⟨some 74, .load 32 (.tmp 73), _, _, _, _⟩) rfl 32 (.tmp 73) rfl P 7 rfl (tkL ((xq 2 F) 1)) _ Tryd.underlying32 rfl (i32k ((xq 2 F) 1)) ((p3.out.seg 1 (by omega)).cast (by omega)) ?_) | ((with_reducible refine wpList_at (o := ⟨none, .store 32 (.tmp 75) (.tmp 74), _, _, _, _⟩) ?_); refine wpList_store_room (op := ⟨none, .store 32 (.tmp 75) (.tmp 74), _, _, _, _⟩) rfl 32 (.tmp 75) (.tmp 74) rfl P 21 28 (tkL ((xq 2 F) 1)) p3.out.room (by show _ + 7 ≤ 28; omega) rfl rfl (i32k ((xq 2 F) 1)) (tkL_one ((xq 2 F) 1)) ?_; intro w5 hWw5; have p4 : Hid (PQ w w5 P (xq 2 F) 4) := Lib.hid (p3.out.step (by omega) hWw5); replace hF1 : Hid (∀ i, i < 2 → Seg w5 T (o + i * 7) (tkL (F i))) := Lib.hid (fun i hi => (hF1.out i hi).only (by rw [hWw5]; exact Only.setCells (S := fun z => z = P) P rfl _ _ (Only.refl _)) (by omega)); clear hWw5 p3))
      refine bodyPost_ret (v := .tuple #[.agg (quadL (xq 2 F)).toArray, .bool true]) ?_ rfl ⟨rfl, p4.out.only.below _ (Nat.le_refl _) (fun z e => by have := hP.out; omega)⟩
      exact results_seg rfl rfl (run80 _ P _ p4.out.full) rfl
set_option maxRecDepth 100000 in
set_option maxHeartbeats 4000000 in
theorem exq_ok3 (T o c : Nat) (F : Nat → Tk) (w : World) (hF : ∀ i, i < 3 → TAt w T (o + i * 7) (F i)) (hc : ∀ i, i < 3 → (F i).ch = .pointer none) (hk : ∀ i, i < 3 → ((F i).kd == 30 || (F i).kd == 34 || (F i).kd == 26) = true) :
    Calls Tryd.prog 27 #[.slice (some ⟨T, o, none⟩) 3 c, .string ⟨#[]⟩] w (GQ (xq 3 F) true w) := by
  have HF := Lib.hid (fun i hi => (hF i hi).seg (hc i hi))
  have HK := Lib.hid hk
  have hTl : T < w.heap.size := block_lt_of_cell (hF 0 (by omega)).c0
  have C21 := Lib.hid (fun k w => num_c k w)
  clear hF hc hk
  go_enter Tryd.func27, Tryd.ntmps27
  go_upto_region 4 with fail
  refine wp_gen (fun W hW => ?_)
  have hb : Hid (Below w.heap.size w W) := Lib.hid (by rw [hW]; exact ba _ _)
  have RP : Hid (Room W w.heap.size 28) := Lib.hid (by rw [hW]; exact Room.newN _ _ rfl _)
  clear hW
  generalize hP : w.heap.size = P at RP ⊢
  replace hP := Lib.hid hP
  have hTP : T < P := by have := hP.out; omega
  have hF0 : Hid (∀ i, i < 3 → Seg W T (o + i * 7) (tkL (F i))) := Lib.hid (fun i hi => (HF.out i hi).after (by have := hb.out; rw [hP.out] at this; rw [hP.out]; exact this))
  clear HF
  go_loopw [7] (fun v wr => ∃ i : Nat, i ≤ 3 ∧ v = .int .i64 i ∧ Below W.heap.size W wr) (fun v _ => 3 - (intOf v).toNat)
  case atStart => exact ⟨0, by omega, rfl, Below.refl _ _⟩
  case round =>
    obtain ⟨i, hi, rfl, hB⟩ := hrel
    obtain ⟨w1, rfl⟩ : ∃ w1 : World, w1 = wr := ⟨_, rfl⟩
    replace hB := Lib.hid hB
    by_cases hlt : i < 3
    · have i0 : (0 : Int) ≤ i := by omega
      have i1 : (i : Int) < 3 := by omega
      have sg := Lib.hid ((hF0.out i hlt).after hB.out)
      have hkk := HK.out i hlt
      have d0 : w1.cell? ⟨T, o + i * 7, none⟩ = some (.pointer none) := sg.out 0 _ rfl
      have d1 : w1.cell? ⟨T, o + i * 7 + 1, none⟩ = some (.string (F i).tx) := sg.out 1 _ rfl
      have d2 : w1.cell? ⟨T, o + i * 7 + 2, none⟩ = some (.int .i32 (F i).lo) := sg.out 2 _ rfl
      have d3 : w1.cell? ⟨T, o + i * 7 + 3, none⟩ = some (.int .u32 (F i).pl) := sg.out 3 _ rfl
      have d4 : w1.cell? ⟨T, o + i * 7 + 4, none⟩ = some (.int .u16 (F i).uo) := sg.out 4 _ rfl
      have d5 : w1.cell? ⟨T, o + i * 7 + 5, none⟩ = some (.int .u8 (F i).kd) := sg.out 5 _ rfl
      have d6 : w1.cell? ⟨T, o + i * 7 + 6, none⟩ = some (.int .u8 (F i).ws) := sg.out 6 _ rfl
      have C := Lib.hid (fun w => (by have := C21.out (F i).kd w; rwa [hkk] at this : Calls Tryd.prog 21 #[.int .u8 (F i).kd] w (fun e w' => e = .returned (.bool true) ∧ w = w')))
      clear hkk
      go_wp2_with (go_at_call 21; (with_reducible refine (C.out _).mono ?_); rintro e wz ⟨rfl, rfl⟩)
      go_roundw
      case rel => exact ⟨i + 1, by omega, by go_num, hB.out.trans (by repeat (first | exact (ba _ _).mono hB.out.size | refine Below.setCell ?_ (by simp; exact hB.out.size) _))⟩
      case measure => simp [intOf]; omega
    · obtain rfl : i = 3 := by omega
      have p0 : Hid (PQ w w1 P (xq 3 F) 0) := Lib.hid ⟨fun s hs => by omega, RP.out.after hB.out, Only.of (by have h1 := hb.out; have h2 := h1.trans (hB.out.mono h1.size); have h3 := hP.out; rw [h3] at h2 ⊢; exact h2)⟩
      have hF1 : Hid (∀ i, i < 3 → Seg w1 T (o + i * 7) (tkL (F i))) := Lib.hid (fun i hi => (hF0.out i hi).after hB.out)
      clear RP hF0 C21 HK
      go_wp2_with (first | ((with_reducible refine wpList_at (o := ⟨some 47, .load 32 (.tmp 46), _, _, _, _⟩) ?_); refine wpList_load_seg (op := ⟨some 47, .load 32 (.tmp 46), _, _, _, _⟩) rfl 32 (.tmp 46) rfl T o rfl (tkL (F 0)) _ Tryd.underlying32 rfl (i32k (F 0)) ((hF1.out 0 (by omega)).cast (by omega)) ?_) | ((with_reducible refine wpList_at (o := ⟨none, .store 32 (.tmp 48) (.tmp 47), _, _, _, _⟩) ?_); refine wpList_store_room (op := ⟨none, .store 32 (.tmp 48) (.tmp 47), _, _, _, _⟩) rfl 32 (.tmp 48) (.tmp 47) rfl P 0 28 (tkL (F 0)) p0.out.room (by show _ + 7 ≤ 28; omega) rfl rfl (i32k (F 0)) (tkL_one (F 0)) ?_; intro w2 hWw2; have p1 : Hid (PQ w w2 P (xq 3 F) 1) := Lib.hid (p0.out.step (by omega) hWw2); replace hF1 : Hid (∀ i, i < 3 → Seg w2 T (o + i * 7) (tkL (F i))) := Lib.hid (fun i hi => (hF1.out i hi).only (by rw [hWw2]; exact Only.setCells (S := fun z => z = P) P rfl _ _ (Only.refl _)) (by omega)); clear hWw2 p0) | ((with_reducible refine wpList_at (o := ⟨some 53, .load 32 (.tmp 52), _, _, _, _⟩) ?_); refine wpList_load_seg (op := ⟨some 53, .load 32 (.tmp 52), _, _, _, _⟩) rfl 32 (.tmp 52) rfl T (o + 7) rfl (tkL (F 1)) _ Tryd.underlying32 rfl (i32k (F 1)) ((hF1.out 1 (by omega)).cast (by omega)) ?_) | ((with_reducible refine wpList_at (o := ⟨none, .store 32 (.tmp 54) (.tmp 53), _, _, _, _⟩) ?_); refine wpList_store_room (op := ⟨none, .store 32 (.tmp 54) (.tmp 53), _, _, _, _⟩) rfl 32 (.tmp 54) (.tmp 53) rfl P 7 28 (tkL (F 1)) p1.out.room (by show _ + 7 ≤ 28; omega) rfl rfl (i32k (F 1)) (tkL_one (F 1)) ?_; intro w3 hWw3; have p2 : Hid (PQ w w3 P (xq 3 F) 2) := Lib.hid (p1.out.step (by omega) hWw3); replace hF1 : Hid (∀ i, i < 3 → Seg w3 T (o + i * 7) (tkL (F i))) := Lib.hid (fun i hi => (hF1.out i hi).only (by rw [hWw3]; exact Only.setCells (S := fun z => z = P) P rfl _ _ (Only.refl _)) (by omega)); clear hWw3 p1) | ((with_reducible refine wpList_at (o := ⟨some 62, .load 32 (.tmp 61), _, _, _, _⟩) ?_); refine wpList_load_seg (op := ⟨some 62, .load 32 (.tmp 61), _, _, _, _⟩) rfl 32 (.tmp 61) rfl T (o + 14) rfl (tkL (F 2)) _ Tryd.underlying32 rfl (i32k (F 2)) ((hF1.out 2 (by omega)).cast (by omega)) ?_) | ((with_reducible refine wpList_at (o := ⟨none, .store 32 (.tmp 63) (.tmp 62), _, _, _, _⟩) ?_); refine wpList_store_room (op := ⟨none, .store 32 (.tmp 63) (.tmp 62), _, _, _, _⟩) rfl 32 (.tmp 63) (.tmp 62) rfl P 14 28 (tkL (F 2)) p2.out.room (by show _ + 7 ≤ 28; omega) rfl rfl (i32k (F 2)) (tkL_one (F 2)) ?_; intro w4 hWw4; have p3 : Hid (PQ w w4 P (xq 3 F) 3) := Lib.hid (p2.out.step (by omega) hWw4); replace hF1 : Hid (∀ i, i < 3 → Seg w4 T (o + i * 7) (tkL (F i))) := Lib.hid (fun i hi => (hF1.out i hi).only (by rw [hWw4]; exact Only.setCells (S := fun z => z = P) P rfl _ _ (Only.refl _)) (by omega)); clear hWw4 p2) | ((with_reducible refine wpList_at (o := ⟨some 74, .load 32 (.tmp 73), _, _, _, _⟩) ?_); refine wpList_load_seg (op := ⟨some 74, .load 32 (.tmp 73), _, _, _, _⟩) rfl 32 (.tmp 73) rfl P 7 rfl (tkL ((xq 3 F) 1)) _ Tryd.underlying32 rfl (i32k ((xq 3 F) 1)) ((p3.out.seg 1 (by omega)).cast (by omega)) ?_) | ((with_reducible refine wpList_at (o := ⟨none, .store 32 (.tmp 75) (.tmp 74), _, _, _, _⟩) ?_); refine wpList_store_room (op := ⟨none, .store 32 (.tmp 75) (.tmp 74), _, _, _, _⟩) rfl 32 (.tmp 75) (.tmp 74) rfl P 21 28 (tkL ((xq 3 F) 1)) p3.out.room (by show _ + 7 ≤ 28; omega) rfl rfl (i32k ((xq 3 F) 1)) (tkL_one ((xq 3 F) 1)) ?_; intro w5 hWw5; have p4 : Hid (PQ w w5 P (xq 3 F) 4) := Lib.hid (p3.out.step (by omega) hWw5); replace hF1 : Hid (∀ i, i < 3 → Seg w5 T (o + i * 7) (tkL (F i))) := Lib.hid (fun i hi => (hF1.out i hi).only (by rw [hWw5]; exact Only.setCells (S := fun z => z = P) P rfl _ _ (Only.refl _)) (by omega)); clear hWw5 p3))
      refine bodyPost_ret (v := .tuple #[.agg (quadL (xq 3 F)).toArray, .bool true]) ?_ rfl ⟨rfl, p4.out.only.below _ (Nat.le_refl _) (fun z e => by have := hP.out; omega)⟩
      exact results_seg rfl rfl (run80 _ P _ p4.out.full) rfl
set_option maxRecDepth 100000 in
set_option maxHeartbeats 4000000 in
theorem exq_ok4 (T o c : Nat) (F : Nat → Tk) (w : World) (hF : ∀ i, i < 4 → TAt w T (o + i * 7) (F i)) (hc : ∀ i, i < 4 → (F i).ch = .pointer none) (hk : ∀ i, i < 4 → ((F i).kd == 30 || (F i).kd == 34 || (F i).kd == 26) = true) :
    Calls Tryd.prog 27 #[.slice (some ⟨T, o, none⟩) 4 c, .string ⟨#[]⟩] w (GQ (xq 4 F) true w) := by
  have HF := Lib.hid (fun i hi => (hF i hi).seg (hc i hi))
  have HK := Lib.hid hk
  have hTl : T < w.heap.size := block_lt_of_cell (hF 0 (by omega)).c0
  have C21 := Lib.hid (fun k w => num_c k w)
  clear hF hc hk
  go_enter Tryd.func27, Tryd.ntmps27
  go_upto_region 4 with fail
  refine wp_gen (fun W hW => ?_)
  have hb : Hid (Below w.heap.size w W) := Lib.hid (by rw [hW]; exact ba _ _)
  have RP : Hid (Room W w.heap.size 28) := Lib.hid (by rw [hW]; exact Room.newN _ _ rfl _)
  clear hW
  generalize hP : w.heap.size = P at RP ⊢
  replace hP := Lib.hid hP
  have hTP : T < P := by have := hP.out; omega
  have hF0 : Hid (∀ i, i < 4 → Seg W T (o + i * 7) (tkL (F i))) := Lib.hid (fun i hi => (HF.out i hi).after (by have := hb.out; rw [hP.out] at this; rw [hP.out]; exact this))
  clear HF
  go_loopw [7] (fun v wr => ∃ i : Nat, i ≤ 4 ∧ v = .int .i64 i ∧ Below W.heap.size W wr) (fun v _ => 4 - (intOf v).toNat)
  case atStart => exact ⟨0, by omega, rfl, Below.refl _ _⟩
  case round =>
    obtain ⟨i, hi, rfl, hB⟩ := hrel
    obtain ⟨w1, rfl⟩ : ∃ w1 : World, w1 = wr := ⟨_, rfl⟩
    replace hB := Lib.hid hB
    by_cases hlt : i < 4
    · have i0 : (0 : Int) ≤ i := by omega
      have i1 : (i : Int) < 4 := by omega
      have sg := Lib.hid ((hF0.out i hlt).after hB.out)
      have hkk := HK.out i hlt
      have d0 : w1.cell? ⟨T, o + i * 7, none⟩ = some (.pointer none) := sg.out 0 _ rfl
      have d1 : w1.cell? ⟨T, o + i * 7 + 1, none⟩ = some (.string (F i).tx) := sg.out 1 _ rfl
      have d2 : w1.cell? ⟨T, o + i * 7 + 2, none⟩ = some (.int .i32 (F i).lo) := sg.out 2 _ rfl
      have d3 : w1.cell? ⟨T, o + i * 7 + 3, none⟩ = some (.int .u32 (F i).pl) := sg.out 3 _ rfl
      have d4 : w1.cell? ⟨T, o + i * 7 + 4, none⟩ = some (.int .u16 (F i).uo) := sg.out 4 _ rfl
      have d5 : w1.cell? ⟨T, o + i * 7 + 5, none⟩ = some (.int .u8 (F i).kd) := sg.out 5 _ rfl
      have d6 : w1.cell? ⟨T, o + i * 7 + 6, none⟩ = some (.int .u8 (F i).ws) := sg.out 6 _ rfl
      have C := Lib.hid (fun w => (by have := C21.out (F i).kd w; rwa [hkk] at this : Calls Tryd.prog 21 #[.int .u8 (F i).kd] w (fun e w' => e = .returned (.bool true) ∧ w = w')))
      clear hkk
      go_wp2_with (go_at_call 21; (with_reducible refine (C.out _).mono ?_); rintro e wz ⟨rfl, rfl⟩)
      go_roundw
      case rel => exact ⟨i + 1, by omega, by go_num, hB.out.trans (by repeat (first | exact (ba _ _).mono hB.out.size | refine Below.setCell ?_ (by simp; exact hB.out.size) _))⟩
      case measure => simp [intOf]; omega
    · obtain rfl : i = 4 := by omega
      have p0 : Hid (PQ w w1 P (xq 4 F) 0) := Lib.hid ⟨fun s hs => by omega, RP.out.after hB.out, Only.of (by have h1 := hb.out; have h2 := h1.trans (hB.out.mono h1.size); have h3 := hP.out; rw [h3] at h2 ⊢; exact h2)⟩
      have hF1 : Hid (∀ i, i < 4 → Seg w1 T (o + i * 7) (tkL (F i))) := Lib.hid (fun i hi => (hF0.out i hi).after hB.out)
      clear RP hF0 C21 HK
      go_wp2_with (first | ((with_reducible refine wpList_at (o := ⟨some 47, .load 32 (.tmp 46), _, _, _, _⟩) ?_); refine wpList_load_seg (op := ⟨some 47, .load 32 (.tmp 46), _, _, _, _⟩) rfl 32 (.tmp 46) rfl T o rfl (tkL (F 0)) _ Tryd.underlying32 rfl (i32k (F 0)) ((hF1.out 0 (by omega)).cast (by omega)) ?_) | ((with_reducible refine wpList_at (o := ⟨none, .store 32 (.tmp 48) (.tmp 47), _, _, _, _⟩) ?_); refine wpList_store_room (op := ⟨none, .store 32 (.tmp 48) (.tmp 47), _, _, _, _⟩) rfl 32 (.tmp 48) (.tmp 47) rfl P 0 28 (tkL (F 0)) p0.out.room (by show _ + 7 ≤ 28; omega) rfl rfl (i32k (F 0)) (tkL_one (F 0)) ?_; intro w2 hWw2; have p1 : Hid (PQ w w2 P (xq 4 F) 1) := Lib.hid (p0.out.step (by omega) hWw2); replace hF1 : Hid (∀ i, i < 4 → Seg w2 T (o + i * 7) (tkL (F i))) := Lib.hid (fun i hi => (hF1.out i hi).only (by rw [hWw2]; exact Only.setCells (S := fun z => z = P) P rfl _ _ (Only.refl _)) (by omega)); clear hWw2 p0) | ((with_reducible refine wpList_at (o := ⟨some 53, .load 32 (.tmp 52), _, _, _, _⟩) ?_); refine wpList_load_seg (op := ⟨some 53, .load 32 (.tmp 52), _, _, _, _⟩) rfl 32 (.tmp 52) rfl T (o + 7) rfl (tkL (F 1)) _ Tryd.underlying32 rfl (i32k (F 1)) ((hF1.out 1 (by omega)).cast (by omega)) ?_) | ((with_reducible refine wpList_at (o := ⟨none, .store 32 (.tmp 54) (.tmp 53), _, _, _, _⟩) ?_); refine wpList_store_room (op := ⟨none, .store 32 (.tmp 54) (.tmp 53), _, _, _, _⟩) rfl 32 (.tmp 54) (.tmp 53) rfl P 7 28 (tkL (F 1)) p1.out.room (by show _ + 7 ≤ 28; omega) rfl rfl (i32k (F 1)) (tkL_one (F 1)) ?_; intro w3 hWw3; have p2 : Hid (PQ w w3 P (xq 4 F) 2) := Lib.hid (p1.out.step (by omega) hWw3); replace hF1 : Hid (∀ i, i < 4 → Seg w3 T (o + i * 7) (tkL (F i))) := Lib.hid (fun i hi => (hF1.out i hi).only (by rw [hWw3]; exact Only.setCells (S := fun z => z = P) P rfl _ _ (Only.refl _)) (by omega)); clear hWw3 p1) | ((with_reducible refine wpList_at (o := ⟨some 62, .load 32 (.tmp 61), _, _, _, _⟩) ?_); refine wpList_load_seg (op := ⟨some 62, .load 32 (.tmp 61), _, _, _, _⟩) rfl 32 (.tmp 61) rfl T (o + 14) rfl (tkL (F 2)) _ Tryd.underlying32 rfl (i32k (F 2)) ((hF1.out 2 (by omega)).cast (by omega)) ?_) | ((with_reducible refine wpList_at (o := ⟨none, .store 32 (.tmp 63) (.tmp 62), _, _, _, _⟩) ?_); refine wpList_store_room (op := ⟨none, .store 32 (.tmp 63) (.tmp 62), _, _, _, _⟩) rfl 32 (.tmp 63) (.tmp 62) rfl P 14 28 (tkL (F 2)) p2.out.room (by show _ + 7 ≤ 28; omega) rfl rfl (i32k (F 2)) (tkL_one (F 2)) ?_; intro w4 hWw4; have p3 : Hid (PQ w w4 P (xq 4 F) 3) := Lib.hid (p2.out.step (by omega) hWw4); replace hF1 : Hid (∀ i, i < 4 → Seg w4 T (o + i * 7) (tkL (F i))) := Lib.hid (fun i hi => (hF1.out i hi).only (by rw [hWw4]; exact Only.setCells (S := fun z => z = P) P rfl _ _ (Only.refl _)) (by omega)); clear hWw4 p2) | ((with_reducible refine wpList_at (o := ⟨some 71, .load 32 (.tmp 70), _, _, _, _⟩) ?_); refine wpList_load_seg (op := ⟨some 71, .load 32 (.tmp 70), _, _, _, _⟩) rfl 32 (.tmp 70) rfl T (o + 21) rfl (tkL (F 3)) _ Tryd.underlying32 rfl (i32k (F 3)) ((hF1.out 3 (by omega)).cast (by omega)) ?_) | ((with_reducible refine wpList_at (o := ⟨none, .store 32 (.tmp 72) (.tmp 71), _, _, _, _⟩) ?_); refine wpList_store_room (op := ⟨none, .store 32 (.tmp 72) (.tmp 71), _, _, _, _⟩) rfl 32 (.tmp 72) (.tmp 71) rfl P 21 28 (tkL (F 3)) p3.out.room (by show _ + 7 ≤ 28; omega) rfl rfl (i32k (F 3)) (tkL_one (F 3)) ?_; intro w5 hWw5; have p4 : Hid (PQ w w5 P (xq 4 F) 4) := Lib.hid (p3.out.step (by omega) hWw5); replace hF1 : Hid (∀ i, i < 4 → Seg w5 T (o + i * 7) (tkL (F i))) := Lib.hid (fun i hi => (hF1.out i hi).only (by rw [hWw5]; exact Only.setCells (S := fun z => z = P) P rfl _ _ (Only.refl _)) (by omega)); clear hWw5 p3))
      refine bodyPost_ret (v := .tuple #[.agg (quadL (xq 4 F)).toArray, .bool true]) ?_ rfl ⟨rfl, p4.out.only.below _ (Nat.le_refl _) (fun z e => by have := hP.out; omega)⟩
      exact results_seg rfl rfl (run80 _ P _ p4.out.full) rfl
def zq : Nat → Tk := fun _ => tk0
set_option maxRecDepth 100000 in
set_option maxHeartbeats 4000000 in
theorem exq_no (A : Option Addr) (n c : Nat) (w : World) (hn : n = 0 ∨ (4 < n ∧ n ≤ 4096)) : Calls Tryd.prog 27 #[.slice A n c, .string ⟨#[]⟩] w (GQ zq false w) := by
  rcases hn with rfl | ⟨h, h'⟩
  all_goals
    go_enter Tryd.func27, Tryd.ntmps27
    go_wp2
    refine bodyPost_ret (v := .tuple #[.agg (quadL zq).toArray, .bool false]) ?_ rfl ⟨rfl, ba _ _⟩
    refine results_seg rfl rfl (run80 _ _ _ ?_) rfl
    exact Seg.new _ (quadL zq) _
set_option maxRecDepth 100000 in
set_option maxHeartbeats 4000000 in
theorem exq_bad (T o n c k : Nat) (F : Nat → Tk) (w : World) (hn : 1 ≤ n) (hn4 : n ≤ 4) (hF : ∀ i, i < n → TAt w T (o + i * 7) (F i)) (hc : ∀ i, i < n → (F i).ch = .pointer none) (hk : k < n) (hbad : ((F k).kd == 30 || (F k).kd == 34 || (F k).kd == 26) = false) (hgood : ∀ i, i < k → ((F i).kd == 30 || (F i).kd == 34 || (F i).kd == 26) = true) :
    Calls Tryd.prog 27 #[.slice (some ⟨T, o, none⟩) n c, .string ⟨#[]⟩] w (GQ zq false w) := by
  have HF := Lib.hid (fun i hi => (hF i hi).seg (hc i hi))
  have HG := Lib.hid hgood
  have HB := Lib.hid hbad
  have hTl : T < w.heap.size := block_lt_of_cell (hF 0 (by omega)).c0
  have C21 := Lib.hid (fun k w => num_c k w)
  clear hF hc hgood hbad
  go_enter Tryd.func27, Tryd.ntmps27
  go_upto_region 4 with fail
  refine wp_gen (fun W hW => ?_)
  have hb : Hid (Below w.heap.size w W) := Lib.hid (by rw [hW]; exact ba _ _)
  have RP : Hid (Seg W w.heap.size 0 (quadL zq)) := Lib.hid (by rw [hW]; exact Seg.new _ (quadL zq) _)
  clear hW
  generalize hP : w.heap.size = P at RP ⊢
  replace hP := Lib.hid hP
  have hF0 : Hid (∀ i, i < n → Seg W T (o + i * 7) (tkL (F i))) := Lib.hid (fun i hi => (HF.out i hi).after (by have := hb.out; rw [hP.out] at this; rw [hP.out]; exact this))
  clear HF
  go_loopw [7] (fun v wr => ∃ i : Nat, i ≤ k ∧ v = .int .i64 i ∧ Below W.heap.size W wr) (fun v _ => k - (intOf v).toNat)
  case atStart => exact ⟨0, by omega, rfl, Below.refl _ _⟩
  case round =>
    obtain ⟨i, hi, rfl, hB⟩ := hrel
    obtain ⟨w1, rfl⟩ : ∃ w1 : World, w1 = wr := ⟨_, rfl⟩
    replace hB := Lib.hid hB
    have i0 : (0 : Int) ≤ i := by omega
    have i1 : (i : Int) < n := by omega
    have i3 : i < n := by omega
    have sg := Lib.hid ((hF0.out i (by omega)).after hB.out)
    have d0 : w1.cell? ⟨T, o + i * 7, none⟩ = some (.pointer none) := sg.out 0 _ rfl
    have d1 : w1.cell? ⟨T, o + i * 7 + 1, none⟩ = some (.string (F i).tx) := sg.out 1 _ rfl
    have d2 : w1.cell? ⟨T, o + i * 7 + 2, none⟩ = some (.int .i32 (F i).lo) := sg.out 2 _ rfl
    have d3 : w1.cell? ⟨T, o + i * 7 + 3, none⟩ = some (.int .u32 (F i).pl) := sg.out 3 _ rfl
    have d4 : w1.cell? ⟨T, o + i * 7 + 4, none⟩ = some (.int .u16 (F i).uo) := sg.out 4 _ rfl
    have d5 : w1.cell? ⟨T, o + i * 7 + 5, none⟩ = some (.int .u8 (F i).kd) := sg.out 5 _ rfl
    have d6 : w1.cell? ⟨T, o + i * 7 + 6, none⟩ = some (.int .u8 (F i).ws) := sg.out 6 _ rfl
    by_cases hlt : i < k
    · have hkk := HG.out i hlt
      have C := Lib.hid (fun w => (by have := C21.out (F i).kd w; rwa [hkk] at this : Calls Tryd.prog 21 #[.int .u8 (F i).kd] w (fun e w' => e = .returned (.bool true) ∧ w = w')))
      clear hkk
      go_wp2_with (go_at_call 21; (with_reducible refine (C.out _).mono ?_); rintro e wz ⟨rfl, rfl⟩)
      go_roundw
      case rel => exact ⟨i + 1, by omega, by go_num, hB.out.trans (by repeat (first | exact (ba _ _).mono hB.out.size | refine Below.setCell ?_ (by simp; exact hB.out.size) _))⟩
      case measure => simp [intOf]; omega
    · obtain rfl : i = k := by omega
      have hkk := HB.out
      have C := Lib.hid (fun w => (by have := C21.out (F i).kd w; rwa [hkk] at this : Calls Tryd.prog 21 #[.int .u8 (F i).kd] w (fun e w' => e = .returned (.bool false) ∧ w = w')))
      clear hkk
      have RF : Hid (Seg w1 P 0 (quadL zq)) := Lib.hid (RP.out.after hB.out)
      have HB1 : Hid (Below P w w1) := Lib.hid (by have := hb.out; rw [hP.out] at this; exact this.trans (hB.out.mono (by have h := this.size; rw [hP.out] at h; exact h)))
      cases hkk2 : (F i).kd != 29
      all_goals
        go_wp2_with (go_at_call 21; (with_reducible refine (C.out _).mono ?_); rintro e wz ⟨rfl, rfl⟩)
        refine bodyPost_ret (v := .tuple #[.agg (quadL zq).toArray, .bool false]) ?_ rfl ⟨rfl, ?_⟩
        · refine results_seg rfl rfl (run80 _ _ _ ?_) rfl
          exact RF.out.after (by repeat (first | exact ba _ _ | refine Below.setCell ?_ (by simp) _))
        · rw [hP.out]
          exact HB1.out.trans ((by repeat (first | exact ba _ _ | refine Below.setCell ?_ (by simp) _) : Below _ _ _).mono (by have h := HB1.out.size; rw [hP.out] at h; exact h))
end Go.Proofs.YthdogpahkglaoaaDoor

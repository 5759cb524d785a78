/- mangleCorner with one token. -/
import Derived.Test.YthdogpahkglaoaaDoorBcd
import Derived.Deep.DeepCutAuto
import Derived.WalkSpells
import Derived.Laws.OwnMore
set_option linter.unusedVariables false
set_option linter.unusedSimpArgs false
namespace Go.Proofs.YthdogpahkglaoaaDoor
open Go.RowKit
def upF (F : Nat → Cn) (k : Nat) (x : Cn) : Nat → Cn := fun s => if s = k then x else F s
/-- what updateCorner does to tracker and rules -/
def UpP (b k R n nr : Nat) (F : Nat → Cn) (imp : Bool) (x : Cn) (D : Nat → Value) (L : Nat → Int) (w : World) (e : Ending) (w' : World) : Prop := e = .returned (.tuple #[]) ∧ Trk w' b (upF F k x) imp ∧ Rul w' R nr D L ∧ Only (fun z => z = b ∨ z = R) w w'
/-- how the rules stand behind it -/
def UpR (F : Nat → Cn) (k n nr : Nat) (x : Cn) (D D' : Nat → Value) (L L' : Nat → Int) : Prop :=
  ((((F k).t1.kd != 0) = false ∨ (((F k).t1.kd != 0) = true ∧ x.sg = true ∧ (F k).sg = false)) ∧ D' = D ∧ L' = L) ∨
  (((F k).t1.kd != 0) = true ∧ x.sg = false ∧ (F k).st = 0 ∧ x.st = 0 ∧ ∃ i : Nat, (F k).ix = i ∧ i < n ∧ (∀ j, j < nr → D' j = if j = i then .nilIface else D j) ∧ (∀ j, j < nr → L' j = if j = i then 0 else L j))
theorem ups (b k R n nr c : Nat) (hnr : n ≤ nr) (F : Nat → Cn) (imp : Bool) (x : Cn) (D D' : Nat → Value) (L L' : Nat → Int) (w : World) (h : Trk w b F imp) (hk : k < 4) (hR : Rul w R nr D L) (hn : n ≤ 4096) (hbR : b ≠ R) (hu : UpR F k n nr x D D' L L') :
    Calls Tryd.prog 25 #[.pointer (some ⟨b, 0, none⟩), .slice (some ⟨R, 0, none⟩) n c, .int .i64 k, x.val] w (UpP b k R n nr F imp x D' L' w) := by
  rcases hu with ⟨hu, rfl, rfl⟩ | ⟨e1, e2, e3, e4, i, e5, hi, hD, hL⟩
  · have key : Calls Tryd.prog 25 #[.pointer (some ⟨b, 0, none⟩), .slice (some ⟨R, 0, none⟩) n c, .int .i64 k, x.val] w (PutP (fun z => z = b) b k x w) := by
      rcases hu with e1 | ⟨e1, e2, e3⟩
      · exact upd_a b k R n c (F k) x w h.room hk (h.cn k hk) hn e1
      · exact upd_c b k R n c (F k) x w h.room hk (h.cn k hk) hn e1 e2 e3
    exact key.mono fun e w' ⟨he, hp, ho⟩ => ⟨he, h.put hp, hR.only ho (fun q => hbR q.symm), ho.wide (fun _ q => .inl q)⟩
  · refine (upd_b b k R n c i (F k) x w h.room hk (h.cn k hk) hn e1 e2 e3 e4 e5 hi (fun j hj => hR.room j (by omega)) hbR).mono ?_
    rintro e w' ⟨he, hp, ho, c0, c1, cc, hr⟩
    refine ⟨he, h.put hp, ⟨fun j hj => ?_, fun j hj => ?_, ho.rooms _ _ hR.room⟩, ho⟩
    · rw [hD j hj]
      by_cases q : j = i
      · subst q; rw [if_pos rfl]; exact c0
      · rw [if_neg q]; exact cc _ _ (by omega) (by omega) (hR.d j hj)
    · rw [hL j hj]
      by_cases q : j = i
      · subst q; rw [if_pos rfl]; exact c1
      · rw [if_neg q]; exact cc _ _ (by omega) (by omega) (hR.l j hj)
def Via (Pre : World → Prop) (Q : World → Ending → World → Prop) (e : Ending) (w' : World) : Prop := ∃ w1, Pre w1 ∧ Q w1 e w'
/-- a declaration -/
abbrev DclAt (w : World) (B : Nat) (kt : ByteArray) (v : Value) (lo len key : Int) (imp : Bool) : Prop := Seg w B 0 (dcL kt v lo len key imp)
theorem Trk.reset {w W : World} {b : Nat} {F : Nat → Cn} {imp imp' : Bool} (h : Trk w b F imp) (hW : W = (w.setCells b 0 (trk4 fun _ => Cn0)).setCell ⟨b, 72, none⟩ (.bool imp')) : Trk W b (fun _ => Cn0) imp' := by
  subst hW
  have hs : Seg (w.setCells b 0 (trk4 fun _ => Cn0)) b 0 (trk4 fun _ => Cn0) := Seg.put h.room (by show 0 + 72 ≤ 73; omega)
  have hr := Room.setCells b (trk4 fun _ => Cn0) 0 w h.room
  refine ⟨fun k hk j v hj => ?_, cs (u := .bool imp) (by rw [setCells_out (by show 72 < 0 ∨ 0 + 72 ≤ 72; omega)]; exact h.im), hr.set _ _⟩
  have hl : j < 18 := by have := (List.getElem?_eq_some_iff.1 hj).1; simpa using this
  rw [co (by intro e; injection e; omega)]
  have := hs (k * 18 + j) v (by
    unfold trk4
    match k, hk with
    | 0, _ => rw [List.getElem?_append_left (by simp <;> omega)]; rw [← hj]; congr 1; omega
    | 1, _ => rw [List.getElem?_append_right (by simp <;> omega), List.getElem?_append_left (by simp <;> omega)]; rw [← hj]; congr 1; simp <;> omega
    | 2, _ => rw [List.getElem?_append_right (by simp <;> omega), List.getElem?_append_right (by simp <;> omega), List.getElem?_append_left (by simp <;> omega)]; rw [← hj]; congr 1; simp <;> omega
    | 3, _ => rw [List.getElem?_append_right (by simp <;> omega), List.getElem?_append_right (by simp <;> omega), List.getElem?_append_right (by simp <;> omega)]; rw [← hj]; congr 1; simp <;> omega)
  rwa [Nat.zero_add] at this
theorem zero67 : Tryd.zeroCells67 = (trk4 fun _ => Cn0).toArray := by kernel_rfl
theorem trk4_one : ∀ v ∈ trk4 (fun _ => Cn0), v.oneCell' = true := by
  intro v hv
  unfold trk4 at hv
  simp only [List.mem_append] at hv
  rcases hv with h | h | h | h <;> exact cnL_one _ v h
abbrev kdOk (t : Tk) : Prop := t.kd = 34 ∨ (t.kd = 30 ∧ t.tx.toList = [48])
theorem kdOk.unit {t : Tk} (h : kdOk t) : unitSt 0 t = 0 := by
  rcases h with h | ⟨h, h'⟩
  · unfold unitSt; rw [if_pos h]
  · unfold unitSt; rw [if_neg (by rw [h]; decide), if_pos h, if_pos h']
theorem kdOk.not26 {t : Tk} (h : kdOk t) : (t.kd == 26) = false := by
  rcases h with h | ⟨h, -⟩ <;> rw [h] <;> rfl
theorem unit0 (B : Nat) (t : Tk) (h : kdOk t) (hc : t.ch = .pointer none) (w : World) (c0 : w.cell? ⟨B, 0, none⟩ = some (.string ⟨#[]⟩)) (c1 : w.cell? ⟨B, 1, none⟩ = some (.int .u8 0)) (f1 : w.frozen? ⟨B, 1, none⟩ = false) :
    Calls Tryd.prog 22 #[.pointer (some ⟨B, 0, none⟩), tkV t] w (UnP B ⟨#[]⟩ 0 w) := by
  have := unit_c 0 B ⟨#[]⟩ t (h.elim .inl (fun q => .inr (.inl q.1))) w c0 c1 f1
  rwa [h.unit, tkV_eq hc] at this
set_option maxRecDepth 100000 in
set_option maxHeartbeats 4000000 in
theorem mc_g (b R n nr c Dd T cc k : Nat) (F : Nat → Cn) (imp0 imp m : Bool) (tk : Tk) (kt : ByteArray) (lo len key : Int) (D : Nat → Value) (L : Nat → Int) (Q : World → Ending → World → Prop) (w : World) (h : Trk w b F imp0) (hFr : imp0 = imp ∨ F = fun _ => Cn0) (hR : Rul w R nr D L) (hD : Seg w Dd 0 (dcL kt (.slice (some ⟨T, 0, none⟩) 1 cc) lo len key imp)) (ht : TAt w T 0 tk) (hch : tk.ch = .pointer none) (hkd : kdOk tk)
    (hk : k < 4) (hn : n ≤ 4096) (hn1 : 1 ≤ n) (hnr : n ≤ nr) (hbR : b ≠ R) (hbD : b ≠ Dd) (hbT : b ≠ T) (hDR : Dd ≠ R) (hu : ((F k).t1.kd != 0) = false ∨ (((F k).t1.kd != 0) = true ∧ (F k).sg = false))
    (hC : ∀ w1, Trk w1 b (upF F k ⟨tk, tk, ⟨#[]⟩, 0, (n : Int) - 1, true⟩) imp → Rul w1 R nr D L → Only (fun z => z = b ∨ z = R) w w1 → Calls Tryd.prog 26 #[.pointer (some ⟨b, 0, none⟩), .slice (some ⟨R, 0, none⟩) n c, .agg #[.int .i32 lo, .int .i32 len], .bool m] w1 (Q w1)) (hQ : ∀ w1 e w', Q w1 e w' → e = .returned (.tuple #[])) :
    Calls Tryd.prog 17 #[.pointer (some ⟨b, 0, none⟩), .slice (some ⟨R, 0, none⟩) n c, .pointer (some ⟨Dd, 0, none⟩), .bool m, .int .i64 k] w (Via (fun w1 => Trk w1 b (upF F k ⟨tk, tk, ⟨#[]⟩, 0, (n : Int) - 1, true⟩) imp ∧ Rul w1 R nr D L ∧ Only (fun z => z = b ∨ z = R) w w1) Q) := by
  have H := Lib.hid h
  have HR := Lib.hid hR
  have HD := Lib.hid hD
  have HT := Lib.hid (ht.seg hch)
  have HCH := Lib.hid hch
  have HKD := Lib.hid hkd
  replace hFr := Lib.hid hFr
  have HbR := Lib.hid hbR
  have HbD := Lib.hid hbD
  have HbT := Lib.hid hbT
  have HU := Lib.hid hu
  have HDR := Lib.hid hDR
  replace hC := Lib.hid hC
  replace hQ := Lib.hid hQ
  have hbl : b < w.heap.size := h.room.lt (by omega)
  have hDl : Dd < w.heap.size := block_lt_of_cell (hD 0 _ rfl)
  have hTl : T < w.heap.size := block_lt_of_cell ht.c0
  have hRl : R < w.heap.size := hR.room.lt (by omega)
  clear h hR hD ht hch hkd hbR hbD hbT hu hDR
  go_enter Tryd.func17, Tryd.ntmps17
  go_upto_region 0 with fail
  have y72 : ∀ d os, (Sort.grow (redrawn w d) os).cell? ⟨b, 72, none⟩ = some (.bool imp0) := fun d os => cell_regrown H.out.im d os
  have y5 : ∀ d os, (Sort.grow (redrawn w d) os).cell? ⟨Dd, 5, none⟩ = some (.bool imp) := fun d os => cell_regrown (by simpa using HD.out 5 _ rfl) d os
  refine drawn_tail 8 (by kernel_rfl) (by kernel_rfl) (by kernel_rfl) (fun Q hQ => ?_)
  simp only [List.take_succ_cons, List.take_zero, List.drop_succ_cons, List.drop_zero]
  repeat (quiet_step (fail))
  refine wpQuiet_nil ?_
  intro w1 hw
  have b1 : Hid (Below w.heap.size w w1) := Lib.hid (by
    obtain ⟨⟨d, os⟩, rfl⟩ := hw
    exact below_regrown _ d os)
  clear hw y72 y5
  go_upto_if 22 with fail
  go_cut [0] (fun v wx => v = .pointer (some ⟨b, 0, none⟩) ∧ Trk wx b F imp ∧ Only (fun z => z = b) w wx)
  case first =>
    have t1 : Hid (Trk w1 b F imp0) := Lib.hid (H.out.after b1.out)
    cases imp0 <;> cases imp
    · go_wp2
      go_meet
      exact ⟨rfl, t1.out, Only.of b1.out⟩
    · have hFF := Lib.hid (hFr.out.resolve_left (by decide))
      have d5 := (by simpa using (HD.out.after b1.out) 5 _ rfl : w1.cell? ⟨Dd, 5, none⟩ = some (.bool true))
      have hbD' := HbD.out
      go_upto_region 2 with ((with_reducible refine wpList_at (o := ⟨none, .store 67 (.tmp 26) (.tmp 24), _, _, _, _⟩) ?_); refine wpList_store_room (op := ⟨none, .store 67 (.tmp 26) (.tmp 24), _, _, _, _⟩) rfl 67 (.tmp 26) (.tmp 24) rfl b 0 73 (trk4 fun _ => Cn0) t1.out.room (by show 0 + 72 ≤ 73; omega) rfl (congrArg Value.agg zero67) (i67 _) trk4_one ?_; intro w2 hW2)
      have o2 : Hid (Only (fun z => z = b) w1 w2) := Lib.hid (by rw [hW2]; exact Only.setCells (S := fun z => z = b) b rfl _ _ (Only.refl _))
      have d5' : w2.cell? ⟨Dd, 5, none⟩ = some (.bool true) := o2.out.keep d5 (fun e => hbD' e.symm)
      obtain ⟨v72, e72, f72⟩ := (o2.out.rooms _ _ t1.out.room) 72 (by omega)
      replace hW2 := Lib.hid hW2
      clear d5
      go_wp2
      go_meet
      exact ⟨rfl, by rw [hFF.out]; exact t1.out.reset (by rw [hW2.out]), ((Only.of b1.out).trans o2.out).set _ _ rfl⟩
    · have hFF := Lib.hid (hFr.out.resolve_left (by decide))
      have d5 := (by simpa using (HD.out.after b1.out) 5 _ rfl : w1.cell? ⟨Dd, 5, none⟩ = some (.bool false))
      have hbD' := HbD.out
      go_upto_region 2 with ((with_reducible refine wpList_at (o := ⟨none, .store 67 (.tmp 26) (.tmp 24), _, _, _, _⟩) ?_); refine wpList_store_room (op := ⟨none, .store 67 (.tmp 26) (.tmp 24), _, _, _, _⟩) rfl 67 (.tmp 26) (.tmp 24) rfl b 0 73 (trk4 fun _ => Cn0) t1.out.room (by show 0 + 72 ≤ 73; omega) rfl (congrArg Value.agg zero67) (i67 _) trk4_one ?_; intro w2 hW2)
      have o2 : Hid (Only (fun z => z = b) w1 w2) := Lib.hid (by rw [hW2]; exact Only.setCells (S := fun z => z = b) b rfl _ _ (Only.refl _))
      have d5' : w2.cell? ⟨Dd, 5, none⟩ = some (.bool false) := o2.out.keep d5 (fun e => hbD' e.symm)
      obtain ⟨v72, e72, f72⟩ := (o2.out.rooms _ _ t1.out.room) 72 (by omega)
      replace hW2 := Lib.hid hW2
      clear d5
      go_wp2
      go_meet
      exact ⟨rfl, by rw [hFF.out]; exact t1.out.reset (by rw [hW2.out]), ((Only.of b1.out).trans o2.out).set _ _ rfl⟩
    · go_wp2
      go_meet
      exact ⟨rfl, t1.out, Only.of b1.out⟩
  case rest =>
    obtain ⟨rfl, t2, o2⟩ := hcut
    obtain ⟨w2, rfl⟩ : ∃ w2, w2 = wc := ⟨_, rfl⟩
    replace t2 := Lib.hid t2
    replace o2 := Lib.hid o2
    clear b1
    have D2 : Hid (Seg w2 Dd 0 (dcL kt (.slice (some ⟨T, 0, none⟩) 1 cc) lo len key imp)) := Lib.hid (HD.out.only o2.out (fun e => HbD.out e.symm))
    have T2 : Hid (Seg w2 T 0 (tkL tk)) := Lib.hid (HT.out.only o2.out (fun e => HbT.out e.symm))
    have R2 : Hid (Rul w2 R nr D L) := Lib.hid (HR.out.only o2.out (fun e => HbR.out e.symm))
    replace hbl : b < w2.heap.size := Nat.lt_of_lt_of_le hbl o2.out.size
    replace hDl : Dd < w2.heap.size := Nat.lt_of_lt_of_le hDl o2.out.size
    replace hTl : T < w2.heap.size := Nat.lt_of_lt_of_le hTl o2.out.size
    replace hRl : R < w2.heap.size := Nat.lt_of_lt_of_le hRl o2.out.size
    clear HD HT HR H
    have d1 : w2.cell? ⟨Dd, 1, none⟩ = some (.slice (some ⟨T, 0, none⟩) 1 cc) := by simpa using D2.out 1 _ rfl
    have t5 : w2.cell? ⟨T, 5, none⟩ = some (.int .u8 tk.kd) := by simpa using T2.out 5 _ rfl
    have C21 : Hid (∀ w, Calls Tryd.prog 21 #[.int .u8 tk.kd] w (fun e w' => e = .returned (.bool true) ∧ w = w')) := Lib.hid (fun w => by
      have := num_c tk.kd w
      have e : (tk.kd == 30 || tk.kd == 34 || tk.kd == 26) = true := by rcases HKD.out with h | ⟨h, -⟩ <;> rw [h] <;> rfl
      rwa [e] at this)
    go_upto_region 5 with (go_at_call 21; (with_reducible refine (C21.out _).mono ?_); rintro e wz ⟨rfl, rfl⟩)
    clear d1 t5
    have d0 : w2.cell? ⟨T, 0, none⟩ = some (.pointer none) := by simpa using T2.out 0 _ rfl
    have d1 : w2.cell? ⟨T, 1, none⟩ = some (.string tk.tx) := by simpa using T2.out 1 _ rfl
    have d2 : w2.cell? ⟨T, 2, none⟩ = some (.int .i32 tk.lo) := by simpa using T2.out 2 _ rfl
    have d3 : w2.cell? ⟨T, 3, none⟩ = some (.int .u32 tk.pl) := by simpa using T2.out 3 _ rfl
    have d4 : w2.cell? ⟨T, 4, none⟩ = some (.int .u16 tk.uo) := by simpa using T2.out 4 _ rfl
    have d5 : w2.cell? ⟨T, 5, none⟩ = some (.int .u8 tk.kd) := by simpa using T2.out 5 _ rfl
    have d6 : w2.cell? ⟨T, 6, none⟩ = some (.int .u8 tk.ws) := by simpa using T2.out 6 _ rfl
    go_upto_region 10 with fail
    refine wp_gen (fun W3 hW => ?_)
    have B3 : Hid (Below w2.heap.size w2 W3) := Lib.hid (by rw [hW]; exact (ba _ _).trans ((ba _ _).mono (by simp)) |>.trans ((ba _ _).mono (by simp; omega)))
    have s1 : Hid (Seg W3 w2.heap.size 0 (tkL tk)) := Lib.hid (by rw [hW]; exact ((Seg.new w2 (tkL tk) 32).after (ba _ _)).after (ba _ _))
    have s2 : Hid (Seg W3 (w2.heap.size + 1) 0 (tkL tk)) := Lib.hid (by rw [hW]; exact (Seg.new' (by simp)).after (ba _ _))
    have u0 : Hid (W3.cell? ⟨w2.heap.size + 1 + 1, 0, none⟩ = some (.string ⟨#[]⟩)) := Lib.hid (by rw [hW]; simp [go_sem])
    have u1 : Hid (W3.cell? ⟨w2.heap.size + 1 + 1, 1, none⟩ = some (.int .u8 0)) := Lib.hid (by rw [hW]; simp [go_sem])
    have uf : Hid (W3.frozen? ⟨w2.heap.size + 1 + 1, 1, none⟩ = false) := Lib.hid (by rw [hW]; simp [go_sem])
    have hsz : w2.heap.size + 1 + 1 < W3.heap.size := by rw [hW]; simp
    clear hW d0 d1 d2 d3 d4 d5 d6
    have C22 := Lib.hid (fun B w c0 c1 f1 => unit0 B tk HKD.out HCH.out w c0 c1 f1)
    have C23 := Lib.hid (fun B w (h : TAt w B 0 tk) => turn_c B 0 tk HKD.out.not26 w h)
    generalize hA : w2.heap.size = A1 at *
    replace hA := Lib.hid hA
    have a0 : W3.cell? ⟨A1, 0, none⟩ = some (.pointer none) := by simpa using s1.out 0 _ rfl
    have a1 : W3.cell? ⟨A1, 1, none⟩ = some (.string tk.tx) := by simpa using s1.out 1 _ rfl
    have a2 : W3.cell? ⟨A1, 2, none⟩ = some (.int .i32 tk.lo) := by simpa using s1.out 2 _ rfl
    have a3 : W3.cell? ⟨A1, 3, none⟩ = some (.int .u32 tk.pl) := by simpa using s1.out 3 _ rfl
    have a4 : W3.cell? ⟨A1, 4, none⟩ = some (.int .u16 tk.uo) := by simpa using s1.out 4 _ rfl
    have a5 : W3.cell? ⟨A1, 5, none⟩ = some (.int .u8 tk.kd) := by simpa using s1.out 5 _ rfl
    have a6 : W3.cell? ⟨A1, 6, none⟩ = some (.int .u8 tk.ws) := by simpa using s1.out 6 _ rfl
    go_upto_region 11 with (go_at_call 22; (with_reducible refine (C22.out _ _ u0.out u1.out uf.out).mono ?_); rintro e w4 ⟨rfl, o4, v0, v1, vf⟩; replace o4 := Lib.hid o4; replace v0 := Lib.hid v0; replace v1 := Lib.hid v1; replace vf := Lib.hid vf)
    clear a0 a1 a2 a3 a4 a5 a6 u0 u1 uf
    replace s1 : Hid (Seg w4 A1 0 (tkL tk)) := Lib.hid (s1.out.only o4.out (by omega))
    replace s2 : Hid (Seg w4 (A1 + 1) 0 (tkL tk)) := Lib.hid (s2.out.only o4.out (by omega))
    have a0 : w4.cell? ⟨A1 + 1, 0, none⟩ = some (.pointer none) := by simpa using s2.out 0 _ rfl
    have a1 : w4.cell? ⟨A1 + 1, 1, none⟩ = some (.string tk.tx) := by simpa using s2.out 1 _ rfl
    have a2 : w4.cell? ⟨A1 + 1, 2, none⟩ = some (.int .i32 tk.lo) := by simpa using s2.out 2 _ rfl
    have a3 : w4.cell? ⟨A1 + 1, 3, none⟩ = some (.int .u32 tk.pl) := by simpa using s2.out 3 _ rfl
    have a4 : w4.cell? ⟨A1 + 1, 4, none⟩ = some (.int .u16 tk.uo) := by simpa using s2.out 4 _ rfl
    have a5 : w4.cell? ⟨A1 + 1, 5, none⟩ = some (.int .u8 tk.kd) := by simpa using s2.out 5 _ rfl
    have a6 : w4.cell? ⟨A1 + 1, 6, none⟩ = some (.int .u8 tk.ws) := by simpa using s2.out 6 _ rfl
    go_upto_region 12 with (go_at_call 22; (with_reducible refine (C22.out _ _ v0.out v1.out vf.out).mono ?_); rintro e w5 ⟨rfl, o5, x0, x1, xf⟩; replace o5 := Lib.hid o5; replace x0 := Lib.hid x0; replace xf := Lib.hid xf)
    clear a0 a1 a2 a3 a4 a5 a6 v0 v1 vf
    replace s1 : Hid (Seg w5 A1 0 (tkL tk)) := Lib.hid (s1.out.only o5.out (by omega))
    replace s2 : Hid (Seg w5 (A1 + 1) 0 (tkL tk)) := Lib.hid (s2.out.only o5.out (by omega))
    have ta := Lib.hid (s1.out.tat HCH.out)
    go_upto_region 20 with (go_at_call 23; (with_reducible refine (C23.out _ _ ta.out).mono ?_); rintro e wz ⟨rfl, rfl⟩)
    have a0 : w5.cell? ⟨A1, 0, none⟩ = some (.pointer none) := by simpa using s1.out 0 _ rfl
    have a1 : w5.cell? ⟨A1, 1, none⟩ = some (.string tk.tx) := by simpa using s1.out 1 _ rfl
    have a2 : w5.cell? ⟨A1, 2, none⟩ = some (.int .i32 tk.lo) := by simpa using s1.out 2 _ rfl
    have a3 : w5.cell? ⟨A1, 3, none⟩ = some (.int .u32 tk.pl) := by simpa using s1.out 3 _ rfl
    have a4 : w5.cell? ⟨A1, 4, none⟩ = some (.int .u16 tk.uo) := by simpa using s1.out 4 _ rfl
    have a5 : w5.cell? ⟨A1, 5, none⟩ = some (.int .u8 tk.kd) := by simpa using s1.out 5 _ rfl
    have a6 : w5.cell? ⟨A1, 6, none⟩ = some (.int .u8 tk.ws) := by simpa using s1.out 6 _ rfl
    have b0 : w5.cell? ⟨A1 + 1, 0, none⟩ = some (.pointer none) := by simpa using s2.out 0 _ rfl
    have b1 : w5.cell? ⟨A1 + 1, 1, none⟩ = some (.string tk.tx) := by simpa using s2.out 1 _ rfl
    have b2 : w5.cell? ⟨A1 + 1, 2, none⟩ = some (.int .i32 tk.lo) := by simpa using s2.out 2 _ rfl
    have b3 : w5.cell? ⟨A1 + 1, 3, none⟩ = some (.int .u32 tk.pl) := by simpa using s2.out 3 _ rfl
    have b4 : w5.cell? ⟨A1 + 1, 4, none⟩ = some (.int .u16 tk.uo) := by simpa using s2.out 4 _ rfl
    have b5 : w5.cell? ⟨A1 + 1, 5, none⟩ = some (.int .u8 tk.kd) := by simpa using s2.out 5 _ rfl
    have b6 : w5.cell? ⟨A1 + 1, 6, none⟩ = some (.int .u8 tk.ws) := by simpa using s2.out 6 _ rfl
    have y0 := x0.out
    have B3' : Below w2.heap.size w2 W3 := by rw [hA.out]; exact B3.out
    have O5 : Hid (Only (fun z => z = b ∨ z = R) w w5) := Lib.hid ((o2.out.wide (fun _ h => .inl h)).trans (Only.shrink B3' (o4.out.trans o5.out) (fun z e hz => by have := hA.out; omega)))
    have t5 : Hid (Trk w5 b F imp) := Lib.hid (((t2.out.after B3').only o4.out (by omega)).only o5.out (by omega))
    have r5 : Hid (Rul w5 R nr D L) := Lib.hid (((R2.out.after B3').only o4.out (by omega)).only o5.out (by omega))
    have D5 : Hid (Seg w5 Dd 0 (dcL kt (.slice (some ⟨T, 0, none⟩) 1 cc) lo len key imp)) := Lib.hid (((D2.out.after B3').only o4.out (by omega)).only o5.out (by omega))
    have C25 := Lib.hid (ups b k R n nr c hnr F imp ⟨tk, tk, ⟨#[]⟩, 0, (n : Int) - 1, true⟩ D D L L w5 t5.out hk r5.out hn HbR.out (.inl ⟨HU.out.imp id (fun h => ⟨h.1, rfl, h.2⟩), rfl, rfl⟩))
    go_upto_region 21 with (go_at_call 25; (with_reducible refine C25.out.mono ?_); rintro e w6 ⟨rfl, t6, r6, o6⟩; replace t6 := Lib.hid t6; replace r6 := Lib.hid r6; replace o6 := Lib.hid o6)
    clear a0 a1 a2 a3 a4 a5 a6 b0 b1 b2 b3 b4 b5 b6 y0 x1
    have D6 : Hid (Seg w6 Dd 0 (dcL kt (.slice (some ⟨T, 0, none⟩) 1 cc) lo len key imp)) := Lib.hid (D5.out.only o6.out (by have h1 := HbD.out; have h2 := HDR.out; omega))
    have e2 : w6.cell? ⟨Dd, 2, none⟩ = some (.int .i32 lo) := by simpa using D6.out 2 _ rfl
    have e3 : w6.cell? ⟨Dd, 3, none⟩ = some (.int .i32 len) := by simpa using D6.out 3 _ rfl
    have O6 : Hid (Only (fun z => z = b ∨ z = R) w w6) := Lib.hid (O5.out.trans o6.out)
    go_wp2_with (go_at_call 26; (with_reducible refine (hC.out _ t6.out r6.out O6.out).mono ?_); intro e w7 hq; obtain rfl := hQ.out _ _ _ hq; replace hq := Lib.hid hq)
    exact bodyPost_end (v := .tuple #[]) (by simp [results, Tryd.results17, go_sem]) rfl ⟨w6, ⟨t6.out, r6.out, O6.out⟩, hq.out⟩
end Go.Proofs.YthdogpahkglaoaaDoor

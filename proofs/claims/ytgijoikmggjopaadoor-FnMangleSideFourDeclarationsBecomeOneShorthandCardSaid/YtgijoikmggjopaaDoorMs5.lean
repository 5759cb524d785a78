/- FnMangleSide: mangleSide with one token. -/
import Derived.Test.YtgijoikmggjopaaDoorMs4
import Derived.Deep.DeepCutAuto
set_option linter.unusedVariables false
set_option linter.unusedSimpArgs false
namespace Go.Proofs.YtgijoikmggjopaaDoor
open Go.RowKit
def Via (Pre : World → Prop) (Q : World → Ending → World → Prop) (e : Ending) (w' : World) : Prop := ∃ w1, Pre w1 ∧ Q w1 e w'
theorem Trk.reset0 {w W : World} {b : Nat} {F : Nat → Sd} {kt : ByteArray} {al imp : Bool} {ky : Int} (h : Trk w b F kt al imp ky) (hW : W = w.setCells b 1 (trk4 fun _ => Sd0)) : Trk W b (fun _ => Sd0) kt al imp ky := by
  subst hW
  have hs : Seg (w.setCells b 1 (trk4 fun _ => Sd0)) b 1 (trk4 fun _ => Sd0) := Seg.put h.room (by show 1 + 44 ≤ 48; omega)
  have hr := Room.setCells b (trk4 fun _ => Sd0) 1 w h.room
  refine ⟨fun k hk j v hj => ?_, by rw [setCells_out (by show 0 < 1 ∨ 1 + 44 ≤ 0; omega)]; exact h.ct, by rw [setCells_out (by show 45 < 1 ∨ 1 + 44 ≤ 45; omega)]; exact h.ca, by rw [setCells_out (by show 46 < 1 ∨ 1 + 44 ≤ 46; omega)]; exact h.im, by rw [setCells_out (by show 47 < 1 ∨ 1 + 44 ≤ 47; omega)]; exact h.ck, hr⟩
  have hl : j < 11 := by have := (List.getElem?_eq_some_iff.1 hj).1; simpa using this
  have := hs (k * 11 + j) v (by
    unfold trk4
    match k, hk with
    | 0, _ => rw [List.getElem?_append_left (by simp <;> omega)]; rw [← hj]; congr 1; omega
    | 1, _ => rw [List.getElem?_append_right (by simp <;> omega), List.getElem?_append_left (by simp <;> omega)]; rw [← hj]; congr 1; simp <;> omega
    | 2, _ => rw [List.getElem?_append_right (by simp <;> omega), List.getElem?_append_right (by simp <;> omega), List.getElem?_append_left (by simp <;> omega)]; rw [← hj]; congr 1; simp <;> omega
    | 3, _ => rw [List.getElem?_append_right (by simp <;> omega), List.getElem?_append_right (by simp <;> omega), List.getElem?_append_right (by simp <;> omega)]; rw [← hj]; congr 1; simp <;> omega)
  rwa [← Nat.add_assoc] at this
theorem Trk.reset {w W : World} {b : Nat} {F : Nat → Sd} {kt : ByteArray} {al imp imp' : Bool} {ky : Int} (h : Trk w b F kt al imp ky) (hW : W = (w.setCells b 1 (trk4 fun _ => Sd0)).setCell ⟨b, 46, none⟩ (.bool imp')) : Trk W b (fun _ => Sd0) kt al imp' ky := by
  subst hW
  have t := h.reset0 rfl
  refine ⟨fun k hk j v hj => ?_, by rw [co (by intro e; injection e; omega)]; exact t.ct, by rw [co (by intro e; injection e; omega)]; exact t.ca, cs t.im, by rw [co (by intro e; injection e; omega)]; exact t.ck, t.room.set _ _⟩
  have hl : j < 11 := by have := (List.getElem?_eq_some_iff.1 hj).1; simpa using this
  rw [co (by intro e; injection e; omega)]
  exact t.cn k hk j v hj
theorem trk4_one : ∀ v ∈ trk4 (fun _ => Sd0), v.oneCell' = true := by
  intro v hv
  simp only [trk4, List.mem_append] at hv
  rcases hv with hv | hv | hv | hv <;> exact cnL_one Sd0 v hv
set_option maxRecDepth 100000 in
set_option maxHeartbeats 4000000 in
theorem ms_n0 (b R n c Dd T cc k : Nat) (F : Nat → Sd) (kt kt' : ByteArray) (al imp0 imp m : Bool) (tk : Tk) (ky lo len key : Int) (Q : World → Ending → World → Prop) (w : World) (h : Trk w b F kt al imp0 ky) (hFr : imp0 = imp ∨ F = fun _ => Sd0) (hD : Seg w Dd 0 (dcL kt' (.slice (some ⟨T, 0, none⟩) 1 cc) lo len key imp)) (ht : TAt w T 0 tk) (hch : tk.ch = .pointer none) (hkd : tk.kd = 34 ∨ tk.kd = 30) (hst : unitSt 0 tk = 0) (hk : k < 4) (hn : n ≤ 4096) (hn1 : 1 ≤ n) (hbD : b ≠ Dd) (hbT : b ≠ T) (e1 : ((F k).t.kd != 0) = false)
    (hC : ∀ w1, Trk w1 b (upF F k ⟨tk, ⟨#[]⟩, 0, (n : Int) - 1, true⟩) kt al imp ky → Only (fun z => z = b) w w1 → Calls Tryd.prog 21 #[.pointer (some ⟨b, 0, none⟩), .slice (some ⟨R, 0, none⟩) n c, .agg #[.int .i32 lo, .int .i32 len], .bool m] w1 (Q w1)) (hQ : ∀ w1 e w', Q w1 e w' → e = .returned (.tuple #[])) :
    Calls Tryd.prog 13 #[.pointer (some ⟨b, 0, none⟩), .slice (some ⟨R, 0, none⟩) n c, .pointer (some ⟨Dd, 0, none⟩), .bool m, .int .i64 k] w (Via (fun w1 => Trk w1 b (upF F k ⟨tk, ⟨#[]⟩, 0, (n : Int) - 1, true⟩) kt al imp ky ∧ Only (fun z => z = b) w w1) Q) := by
  have H := Lib.hid h
  have HD := Lib.hid hD
  have HT := Lib.hid (ht.seg hch)
  have HCH := Lib.hid hch
  replace hFr := Lib.hid hFr
  have HbD := Lib.hid hbD
  have HbT := Lib.hid hbT
  have hbl : b < w.heap.size := h.room.lt (by omega)
  have hDl : Dd < w.heap.size := block_lt_of_cell (hD 0 _ rfl)
  have hTl : T < w.heap.size := block_lt_of_cell ht.c0
  replace hC := Lib.hid hC
  replace hQ := Lib.hid hQ
  have HE1 := Lib.hid e1
  have HKD := Lib.hid hkd
  have HST := Lib.hid hst
  clear hst
  clear h hD ht hch hbD hbT hkd e1
  go_enter Tryd.func13, Tryd.ntmps13
  go_upto_region 0 with fail
  have y72 : ∀ d os, (Sort.grow (redrawn w d) os).cell? ⟨b, 46, none⟩ = some (.bool imp0) := fun d os => cell_regrown H.out.im d os
  have y5 : ∀ d os, (Sort.grow (redrawn w d) os).cell? ⟨Dd, 5, none⟩ = some (.bool imp) := fun d os => cell_regrown (by simpa using HD.out 5 _ rfl) d os
  refine drawn_tail 8 (by kernel_rfl) (by kernel_rfl) (by kernel_rfl) (fun Q hQ => ?_)
  simp only [List.take_succ_cons, List.take_zero, List.drop_succ_cons, List.drop_zero]
  repeat (quiet_step (fail))
  refine wpQuiet_nil ?_
  intro w1 hw
  have b1 : Hid (Below w.heap.size w w1) := Lib.hid (by
    obtain ⟨⟨d, os⟩, rfl⟩ := hw
    exact below_regrown _ d os)
  clear hw y72 y5
  go_upto_if 21 with fail
  go_cut [0] (fun v wx => v = .pointer (some ⟨b, 0, none⟩) ∧ Trk wx b F kt al imp ky ∧ Only (fun z => z = b) w wx)
  case first =>
    have t1 : Hid (Trk w1 b F kt al imp0 ky) := Lib.hid (H.out.after b1.out)
    cases imp0 <;> cases imp
    · go_wp2
      go_meet
      exact ⟨rfl, t1.out, Only.of b1.out⟩
    · have hFF := Lib.hid (hFr.out.resolve_left (by decide))
      have d5 := (by simpa using (HD.out.after b1.out) 5 _ rfl : w1.cell? ⟨Dd, 5, none⟩ = some (.bool true))
      have hbD' := HbD.out
      go_upto_region 2 with ((with_reducible refine wpList_at (o := ⟨none, .store 63 (.tmp 25) (.tmp 23), _, _, _, _⟩) ?_); refine wpList_store_room (op := ⟨none, .store 63 (.tmp 25) (.tmp 23), _, _, _, _⟩) rfl 63 (.tmp 25) (.tmp 23) rfl b 1 48 (trk4 fun _ => Sd0) t1.out.room (by show 1 + 44 ≤ 48; omega) rfl rfl (i63 _) trk4_one ?_; intro w2 hW2)
      have o2 : Hid (Only (fun z => z = b) w1 w2) := Lib.hid (by rw [hW2]; exact Only.setCells (S := fun z => z = b) b rfl _ _ (Only.refl _))
      have d5' : w2.cell? ⟨Dd, 5, none⟩ = some (.bool true) := o2.out.keep d5 (fun e => hbD' e.symm)
      obtain ⟨v72, e72, f72⟩ := (o2.out.rooms _ _ t1.out.room) 46 (by omega)
      replace hW2 := Lib.hid hW2
      clear d5
      go_wp2
      go_meet
      exact ⟨rfl, by rw [hFF.out]; exact t1.out.reset (by rw [hW2.out]), ((Only.of b1.out).trans o2.out).set _ _ rfl⟩
    · have hFF := Lib.hid (hFr.out.resolve_left (by decide))
      have d5 := (by simpa using (HD.out.after b1.out) 5 _ rfl : w1.cell? ⟨Dd, 5, none⟩ = some (.bool false))
      have hbD' := HbD.out
      go_upto_region 2 with ((with_reducible refine wpList_at (o := ⟨none, .store 63 (.tmp 25) (.tmp 23), _, _, _, _⟩) ?_); refine wpList_store_room (op := ⟨none, .store 63 (.tmp 25) (.tmp 23), _, _, _, _⟩) rfl 63 (.tmp 25) (.tmp 23) rfl b 1 48 (trk4 fun _ => Sd0) t1.out.room (by show 1 + 44 ≤ 48; omega) rfl rfl (i63 _) trk4_one ?_; intro w2 hW2)
      have o2 : Hid (Only (fun z => z = b) w1 w2) := Lib.hid (by rw [hW2]; exact Only.setCells (S := fun z => z = b) b rfl _ _ (Only.refl _))
      have d5' : w2.cell? ⟨Dd, 5, none⟩ = some (.bool false) := o2.out.keep d5 (fun e => hbD' e.symm)
      obtain ⟨v72, e72, f72⟩ := (o2.out.rooms _ _ t1.out.room) 46 (by omega)
      replace hW2 := Lib.hid hW2
      clear d5
      go_wp2
      go_meet
      exact ⟨rfl, by rw [hFF.out]; exact t1.out.reset (by rw [hW2.out]), ((Only.of b1.out).trans o2.out).set _ _ rfl⟩
    · go_wp2
      go_meet
      exact ⟨rfl, t1.out, Only.of b1.out⟩
  case rest =>
    obtain ⟨rfl, t2, o2⟩ := hcut
    obtain ⟨w2, rfl⟩ : ∃ w2, w2 = wc := ⟨_, rfl⟩
    replace t2 := Lib.hid t2
    replace o2 := Lib.hid o2
    clear b1
    have D2 : Hid (Seg w2 Dd 0 (dcL kt' (.slice (some ⟨T, 0, none⟩) 1 cc) lo len key imp)) := Lib.hid (HD.out.only o2.out (fun e => HbD.out e.symm))
    have T2 : Hid (Seg w2 T 0 (tkL tk)) := Lib.hid (HT.out.only o2.out (fun e => HbT.out e.symm))
    replace hbl : b < w2.heap.size := Nat.lt_of_lt_of_le hbl o2.out.size
    replace hDl : Dd < w2.heap.size := Nat.lt_of_lt_of_le hDl o2.out.size
    replace hTl : T < w2.heap.size := Nat.lt_of_lt_of_le hTl o2.out.size
    clear HD HT H
    have d1 : w2.cell? ⟨Dd, 1, none⟩ = some (.slice (some ⟨T, 0, none⟩) 1 cc) := by simpa using D2.out 1 _ rfl
    go_upto_region 5 with fail
    clear d1
    have d0 : w2.cell? ⟨T, 0, none⟩ = some (.pointer none) := by simpa using T2.out 0 _ rfl
    have d1 : w2.cell? ⟨T, 1, none⟩ = some (.string tk.tx) := by simpa using T2.out 1 _ rfl
    have d2 : w2.cell? ⟨T, 2, none⟩ = some (.int .i32 tk.lo) := by simpa using T2.out 2 _ rfl
    have d3 : w2.cell? ⟨T, 3, none⟩ = some (.int .u32 tk.pl) := by simpa using T2.out 3 _ rfl
    have d4 : w2.cell? ⟨T, 4, none⟩ = some (.int .u16 tk.uo) := by simpa using T2.out 4 _ rfl
    have d5 : w2.cell? ⟨T, 5, none⟩ = some (.int .u8 tk.kd) := by simpa using T2.out 5 _ rfl
    have d6 : w2.cell? ⟨T, 6, none⟩ = some (.int .u8 tk.ws) := by simpa using T2.out 6 _ rfl
    go_upto_region 6 with fail
    refine wp_gen (fun W3 hW => ?_)
    have B3 : Hid (Below w2.heap.size w2 W3) := Lib.hid (by rw [hW]; exact ba _ _)
    have s1 : Hid (Seg W3 w2.heap.size 0 (tkL tk)) := Lib.hid (by rw [hW]; exact Seg.new w2 (tkL tk) 40)
    have hszh : Hid (W3.heap.size = w2.heap.size + 1) := Lib.hid (by rw [hW]; simp)
    clear hW d0 d1 d2 d3 d4 d5 d6
    generalize hA : w2.heap.size = A1 at *
    replace hA := Lib.hid hA
    have a5 : W3.cell? ⟨A1, 5, none⟩ = some (.int .u8 tk.kd) := by simpa using s1.out 5 _ rfl
    have a1 : W3.cell? ⟨A1, 1, none⟩ = some (.string tk.tx) := by simpa using s1.out 1 _ rfl
    have C16 : Hid (∀ w, Calls Tryd.prog 16 #[.int .u8 tk.kd] w (fun e w' => e = .returned (.bool true) ∧ w = w')) := Lib.hid (fun w => by
      have := num_c tk.kd w
      have e : (tk.kd == 30 || tk.kd == 34 || tk.kd == 26) = true := by rcases HKD.out with h | h <;> rw [h] <;> rfl
      rwa [e] at this)
    have ca := t2.out.after (by rw [hA.out]; exact B3.out)
    have ca := ca.ca
    have hsz3 : A1 < W3.heap.size := by have := hszh.out; omega
    go_upto_region 7 with (go_at_call 16; (with_reducible refine (C16.out _).mono ?_); rintro e wz ⟨rfl, rfl⟩)
    go_upto_region 8 with fail
    refine wp_gen (fun W4 hW => ?_)
    have B4 : Hid (Below W3.heap.size W3 W4) := Lib.hid (by rw [hW]; exact ba _ _)
    have u0 : Hid (W4.cell? ⟨W3.heap.size, 0, none⟩ = some (.string ⟨#[]⟩)) := Lib.hid (by rw [hW]; simp [go_sem])
    have u1 : Hid (W4.cell? ⟨W3.heap.size, 1, none⟩ = some (.int .u8 0)) := Lib.hid (by rw [hW]; simp [go_sem])
    have uf : Hid (W4.frozen? ⟨W3.heap.size, 1, none⟩ = false) := Lib.hid (by rw [hW]; simp [go_sem])
    have hlt4 : W3.heap.size < W4.heap.size := by rw [hW]; simp
    replace ca := ac B4.out ca
    replace a5 := ac B4.out a5
    clear hW a1
    replace s1 : Hid (Seg W4 A1 0 (tkL tk)) := Lib.hid (s1.out.after B4.out)
    replace B3 : Hid (Below A1 w2 W4) := Lib.hid (B3.out.trans (B4.out.mono (by omega)))
    obtain ⟨U, hU⟩ : ∃ x, W3.heap.size = x := ⟨_, rfl⟩
    rw [hU] at u0 u1 uf hlt4 hsz3 ⊢
    clear hU B4
    have C19 := Lib.hid (fun w (h : TAt w A1 0 tk) => turn_c A1 0 tk (by rcases HKD.out with h | h <;> rw [h] <;> rfl) w h)
    have C18 := Lib.hid (fun w c0 c1 f1 => (by have := unit_c 0 U ⟨#[]⟩ tk (by rcases HKD.out with h | h <;> omega) w c0 c1 f1; rwa [HST.out, tkV_eq HCH.out] at this : Calls Tryd.prog 18 #[.pointer (some ⟨U, 0, none⟩), tkV tk] w (UnP U ⟨#[]⟩ 0 w)))
    have a0 : W4.cell? ⟨A1, 0, none⟩ = some (.pointer none) := by simpa using s1.out 0 _ rfl
    have a1 : W4.cell? ⟨A1, 1, none⟩ = some (.string tk.tx) := by simpa using s1.out 1 _ rfl
    have a2 : W4.cell? ⟨A1, 2, none⟩ = some (.int .i32 tk.lo) := by simpa using s1.out 2 _ rfl
    have a3 : W4.cell? ⟨A1, 3, none⟩ = some (.int .u32 tk.pl) := by simpa using s1.out 3 _ rfl
    have a4 : W4.cell? ⟨A1, 4, none⟩ = some (.int .u16 tk.uo) := by simpa using s1.out 4 _ rfl
    have a6 : W4.cell? ⟨A1, 6, none⟩ = some (.int .u8 tk.ws) := by simpa using s1.out 6 _ rfl
    have HAL := Lib.hid (rfl : al = al)
    obtain ⟨al', hal'⟩ : ∃ x, x = al := ⟨_, rfl⟩
    rw [← hal'] at ca
    replace hal' := Lib.hid hal'
    cases al'
    all_goals
      go_upto_region 10 with (first | (go_at_call 16; (with_reducible refine (C16.out _).mono ?_); rintro e wz ⟨rfl, rfl⟩) | (go_at_call 18; (with_reducible refine (C18.out _ u0.out u1.out uf.out).mono ?_); rintro e w4 ⟨rfl, o4, v0, v1, vf⟩; replace o4 := Lib.hid o4; replace v0 := Lib.hid v0; replace v1 := Lib.hid v1; replace vf := Lib.hid vf))
      clear ca a0 a1 a2 a3 a4 a5 a6 u0 u1 uf
      replace s1 : Hid (Seg w4 A1 0 (tkL tk)) := Lib.hid (s1.out.only o4.out (by omega))
      have ta := Lib.hid (s1.out.tat HCH.out)
      have x1 := v1.out
      go_upto_region 12 with (first | (go_at_call 19; (with_reducible refine (C19.out _ ta.out).mono ?_); rintro e wz ⟨rfl, rfl⟩) | (go_at_call 16; (with_reducible refine (C16.out _).mono ?_); rintro e wz ⟨rfl, rfl⟩))
      have a0 : w4.cell? ⟨A1, 0, none⟩ = some (.pointer none) := by simpa using s1.out 0 _ rfl
      have a1 : w4.cell? ⟨A1, 1, none⟩ = some (.string tk.tx) := by simpa using s1.out 1 _ rfl
      have a2 : w4.cell? ⟨A1, 2, none⟩ = some (.int .i32 tk.lo) := by simpa using s1.out 2 _ rfl
      have a3 : w4.cell? ⟨A1, 3, none⟩ = some (.int .u32 tk.pl) := by simpa using s1.out 3 _ rfl
      have a4 : w4.cell? ⟨A1, 4, none⟩ = some (.int .u16 tk.uo) := by simpa using s1.out 4 _ rfl
      have a5 : w4.cell? ⟨A1, 5, none⟩ = some (.int .u8 tk.kd) := by simpa using s1.out 5 _ rfl
      have a6 : w4.cell? ⟨A1, 6, none⟩ = some (.int .u8 tk.ws) := by simpa using s1.out 6 _ rfl
      have x0 := v0.out
      have B3' : Below w2.heap.size w2 W4 := by rw [hA.out]; exact B3.out
      have O5 : Hid (Only (fun z => z = b) w w4) := Lib.hid (o2.out.trans (Only.shrink B3' o4.out (fun z e hz => by have := hA.out; omega)))
      have t5 : Hid (Trk w4 b F kt al imp ky) := Lib.hid ((t2.out.after B3').only o4.out (by omega))
      have D5 : Hid (Seg w4 Dd 0 (dcL kt' (.slice (some ⟨T, 0, none⟩) 1 cc) lo len key imp)) := Lib.hid ((D2.out.after B3').only o4.out (by omega))
      have C20 := Lib.hid (upd_a b k R n c (F k) ⟨tk, ⟨#[]⟩, 0, (n : Int) - 1, true⟩ w4 t5.out.room hk (t5.out.cn k hk) hn HE1.out)
      have n0 : (0 : Int) ≤ n := by omega
      have n1 : (n : Int) ≤ 4096 := by omega
      have n2 : (1 : Int) ≤ n := by omega
      have wn : IntKind.u32.wrap ((n : Int) - 1) = (n : Int) - 1 := by rw [IntKind.wrap_u32]; omega
      go_upto_region 13 with (go_at_call 20; (with_reducible refine C20.out.mono ?_); rintro e w6 ⟨rfl, p6, o6⟩; replace p6 := Lib.hid p6; replace o6 := Lib.hid o6)
      clear a0 a1 a2 a3 a4 a5 a6 x0 x1
      have t6 : Hid (Trk w6 b (upF F k ⟨tk, ⟨#[]⟩, 0, (n : Int) - 1, true⟩) kt al imp ky) := Lib.hid (t5.out.put p6.out)
      have D6 : Hid (Seg w6 Dd 0 (dcL kt' (.slice (some ⟨T, 0, none⟩) 1 cc) lo len key imp)) := Lib.hid (D5.out.only o6.out (by have h1 := HbD.out; omega))
      have e2 : w6.cell? ⟨Dd, 2, none⟩ = some (.int .i32 lo) := by simpa using D6.out 2 _ rfl
      have e3 : w6.cell? ⟨Dd, 3, none⟩ = some (.int .i32 len) := by simpa using D6.out 3 _ rfl
      have O6 : Hid (Only (fun z => z = b) w w6) := Lib.hid (O5.out.trans o6.out)
      go_wp2_with (go_at_call 21; (with_reducible refine (hC.out _ t6.out O6.out).mono ?_); intro e w7 hq; obtain rfl := hQ.out _ _ _ hq; replace hq := Lib.hid hq)
      exact bodyPost_ret (v := .tuple #[]) (by simp [results, Tryd.results13, go_sem]) rfl ⟨w6, ⟨t6.out, O6.out⟩, hq.out⟩
set_option maxRecDepth 100000 in
set_option maxHeartbeats 4000000 in
theorem ms_n2 (b R n c Dd T cc k : Nat) (F : Nat → Sd) (kt kt' : ByteArray) (al imp0 imp m : Bool) (tk : Tk) (ky lo len key : Int) (Q : World → Ending → World → Prop) (w : World) (h : Trk w b F kt al imp0 ky) (hFr : imp0 = imp ∨ F = fun _ => Sd0) (hD : Seg w Dd 0 (dcL kt' (.slice (some ⟨T, 0, none⟩) 1 cc) lo len key imp)) (ht : TAt w T 0 tk) (hch : tk.ch = .pointer none) (hkd : tk.kd = 34 ∨ tk.kd = 30) (hst : unitSt 0 tk = 2) (hk : k < 4) (hn : n ≤ 4096) (hn1 : 1 ≤ n) (hbD : b ≠ Dd) (hbT : b ≠ T) (e1 : ((F k).t.kd != 0) = false)
    (hC : ∀ w1, Trk w1 b (upF F k ⟨tk, ⟨#[]⟩, 2, (n : Int) - 1, true⟩) kt al imp ky → Only (fun z => z = b) w w1 → Calls Tryd.prog 21 #[.pointer (some ⟨b, 0, none⟩), .slice (some ⟨R, 0, none⟩) n c, .agg #[.int .i32 lo, .int .i32 len], .bool m] w1 (Q w1)) (hQ : ∀ w1 e w', Q w1 e w' → e = .returned (.tuple #[])) :
    Calls Tryd.prog 13 #[.pointer (some ⟨b, 0, none⟩), .slice (some ⟨R, 0, none⟩) n c, .pointer (some ⟨Dd, 0, none⟩), .bool m, .int .i64 k] w (Via (fun w1 => Trk w1 b (upF F k ⟨tk, ⟨#[]⟩, 2, (n : Int) - 1, true⟩) kt al imp ky ∧ Only (fun z => z = b) w w1) Q) := by
  have H := Lib.hid h
  have HD := Lib.hid hD
  have HT := Lib.hid (ht.seg hch)
  have HCH := Lib.hid hch
  replace hFr := Lib.hid hFr
  have HbD := Lib.hid hbD
  have HbT := Lib.hid hbT
  have hbl : b < w.heap.size := h.room.lt (by omega)
  have hDl : Dd < w.heap.size := block_lt_of_cell (hD 0 _ rfl)
  have hTl : T < w.heap.size := block_lt_of_cell ht.c0
  replace hC := Lib.hid hC
  replace hQ := Lib.hid hQ
  have HE1 := Lib.hid e1
  have HKD := Lib.hid hkd
  have HST := Lib.hid hst
  clear hst
  clear h hD ht hch hbD hbT hkd e1
  go_enter Tryd.func13, Tryd.ntmps13
  go_upto_region 0 with fail
  have y72 : ∀ d os, (Sort.grow (redrawn w d) os).cell? ⟨b, 46, none⟩ = some (.bool imp0) := fun d os => cell_regrown H.out.im d os
  have y5 : ∀ d os, (Sort.grow (redrawn w d) os).cell? ⟨Dd, 5, none⟩ = some (.bool imp) := fun d os => cell_regrown (by simpa using HD.out 5 _ rfl) d os
  refine drawn_tail 8 (by kernel_rfl) (by kernel_rfl) (by kernel_rfl) (fun Q hQ => ?_)
  simp only [List.take_succ_cons, List.take_zero, List.drop_succ_cons, List.drop_zero]
  repeat (quiet_step (fail))
  refine wpQuiet_nil ?_
  intro w1 hw
  have b1 : Hid (Below w.heap.size w w1) := Lib.hid (by
    obtain ⟨⟨d, os⟩, rfl⟩ := hw
    exact below_regrown _ d os)
  clear hw y72 y5
  go_upto_if 21 with fail
  go_cut [0] (fun v wx => v = .pointer (some ⟨b, 0, none⟩) ∧ Trk wx b F kt al imp ky ∧ Only (fun z => z = b) w wx)
  case first =>
    have t1 : Hid (Trk w1 b F kt al imp0 ky) := Lib.hid (H.out.after b1.out)
    cases imp0 <;> cases imp
    · go_wp2
      go_meet
      exact ⟨rfl, t1.out, Only.of b1.out⟩
    · have hFF := Lib.hid (hFr.out.resolve_left (by decide))
      have d5 := (by simpa using (HD.out.after b1.out) 5 _ rfl : w1.cell? ⟨Dd, 5, none⟩ = some (.bool true))
      have hbD' := HbD.out
      go_upto_region 2 with ((with_reducible refine wpList_at (o := ⟨none, .store 63 (.tmp 25) (.tmp 23), _, _, _, _⟩) ?_); refine wpList_store_room (op := ⟨none, .store 63 (.tmp 25) (.tmp 23), _, _, _, _⟩) rfl 63 (.tmp 25) (.tmp 23) rfl b 1 48 (trk4 fun _ => Sd0) t1.out.room (by show 1 + 44 ≤ 48; omega) rfl rfl (i63 _) trk4_one ?_; intro w2 hW2)
      have o2 : Hid (Only (fun z => z = b) w1 w2) := Lib.hid (by rw [hW2]; exact Only.setCells (S := fun z => z = b) b rfl _ _ (Only.refl _))
      have d5' : w2.cell? ⟨Dd, 5, none⟩ = some (.bool true) := o2.out.keep d5 (fun e => hbD' e.symm)
      obtain ⟨v72, e72, f72⟩ := (o2.out.rooms _ _ t1.out.room) 46 (by omega)
      replace hW2 := Lib.hid hW2
      clear d5
      go_wp2
      go_meet
      exact ⟨rfl, by rw [hFF.out]; exact t1.out.reset (by rw [hW2.out]), ((Only.of b1.out).trans o2.out).set _ _ rfl⟩
    · have hFF := Lib.hid (hFr.out.resolve_left (by decide))
      have d5 := (by simpa using (HD.out.after b1.out) 5 _ rfl : w1.cell? ⟨Dd, 5, none⟩ = some (.bool false))
      have hbD' := HbD.out
      go_upto_region 2 with ((with_reducible refine wpList_at (o := ⟨none, .store 63 (.tmp 25) (.tmp 23), _, _, _, _⟩) ?_); refine wpList_store_room (op := ⟨none, .store 63 (.tmp 25) (.tmp 23), _, _, _, _⟩) rfl 63 (.tmp 25) (.tmp 23) rfl b 1 48 (trk4 fun _ => Sd0) t1.out.room (by show 1 + 44 ≤ 48; omega) rfl rfl (i63 _) trk4_one ?_; intro w2 hW2)
      have o2 : Hid (Only (fun z => z = b) w1 w2) := Lib.hid (by rw [hW2]; exact Only.setCells (S := fun z => z = b) b rfl _ _ (Only.refl _))
      have d5' : w2.cell? ⟨Dd, 5, none⟩ = some (.bool false) := o2.out.keep d5 (fun e => hbD' e.symm)
      obtain ⟨v72, e72, f72⟩ := (o2.out.rooms _ _ t1.out.room) 46 (by omega)
      replace hW2 := Lib.hid hW2
      clear d5
      go_wp2
      go_meet
      exact ⟨rfl, by rw [hFF.out]; exact t1.out.reset (by rw [hW2.out]), ((Only.of b1.out).trans o2.out).set _ _ rfl⟩
    · go_wp2
      go_meet
      exact ⟨rfl, t1.out, Only.of b1.out⟩
  case rest =>
    obtain ⟨rfl, t2, o2⟩ := hcut
    obtain ⟨w2, rfl⟩ : ∃ w2, w2 = wc := ⟨_, rfl⟩
    replace t2 := Lib.hid t2
    replace o2 := Lib.hid o2
    clear b1
    have D2 : Hid (Seg w2 Dd 0 (dcL kt' (.slice (some ⟨T, 0, none⟩) 1 cc) lo len key imp)) := Lib.hid (HD.out.only o2.out (fun e => HbD.out e.symm))
    have T2 : Hid (Seg w2 T 0 (tkL tk)) := Lib.hid (HT.out.only o2.out (fun e => HbT.out e.symm))
    replace hbl : b < w2.heap.size := Nat.lt_of_lt_of_le hbl o2.out.size
    replace hDl : Dd < w2.heap.size := Nat.lt_of_lt_of_le hDl o2.out.size
    replace hTl : T < w2.heap.size := Nat.lt_of_lt_of_le hTl o2.out.size
    clear HD HT H
    have d1 : w2.cell? ⟨Dd, 1, none⟩ = some (.slice (some ⟨T, 0, none⟩) 1 cc) := by simpa using D2.out 1 _ rfl
    go_upto_region 5 with fail
    clear d1
    have d0 : w2.cell? ⟨T, 0, none⟩ = some (.pointer none) := by simpa using T2.out 0 _ rfl
    have d1 : w2.cell? ⟨T, 1, none⟩ = some (.string tk.tx) := by simpa using T2.out 1 _ rfl
    have d2 : w2.cell? ⟨T, 2, none⟩ = some (.int .i32 tk.lo) := by simpa using T2.out 2 _ rfl
    have d3 : w2.cell? ⟨T, 3, none⟩ = some (.int .u32 tk.pl) := by simpa using T2.out 3 _ rfl
    have d4 : w2.cell? ⟨T, 4, none⟩ = some (.int .u16 tk.uo) := by simpa using T2.out 4 _ rfl
    have d5 : w2.cell? ⟨T, 5, none⟩ = some (.int .u8 tk.kd) := by simpa using T2.out 5 _ rfl
    have d6 : w2.cell? ⟨T, 6, none⟩ = some (.int .u8 tk.ws) := by simpa using T2.out 6 _ rfl
    go_upto_region 6 with fail
    refine wp_gen (fun W3 hW => ?_)
    have B3 : Hid (Below w2.heap.size w2 W3) := Lib.hid (by rw [hW]; exact ba _ _)
    have s1 : Hid (Seg W3 w2.heap.size 0 (tkL tk)) := Lib.hid (by rw [hW]; exact Seg.new w2 (tkL tk) 40)
    have hszh : Hid (W3.heap.size = w2.heap.size + 1) := Lib.hid (by rw [hW]; simp)
    clear hW d0 d1 d2 d3 d4 d5 d6
    generalize hA : w2.heap.size = A1 at *
    replace hA := Lib.hid hA
    have a5 : W3.cell? ⟨A1, 5, none⟩ = some (.int .u8 tk.kd) := by simpa using s1.out 5 _ rfl
    have a1 : W3.cell? ⟨A1, 1, none⟩ = some (.string tk.tx) := by simpa using s1.out 1 _ rfl
    have C16 : Hid (∀ w, Calls Tryd.prog 16 #[.int .u8 tk.kd] w (fun e w' => e = .returned (.bool true) ∧ w = w')) := Lib.hid (fun w => by
      have := num_c tk.kd w
      have e : (tk.kd == 30 || tk.kd == 34 || tk.kd == 26) = true := by rcases HKD.out with h | h <;> rw [h] <;> rfl
      rwa [e] at this)
    have ca := t2.out.after (by rw [hA.out]; exact B3.out)
    have ca := ca.ca
    have hsz3 : A1 < W3.heap.size := by have := hszh.out; omega
    go_upto_region 7 with (go_at_call 16; (with_reducible refine (C16.out _).mono ?_); rintro e wz ⟨rfl, rfl⟩)
    go_upto_region 8 with fail
    refine wp_gen (fun W4 hW => ?_)
    have B4 : Hid (Below W3.heap.size W3 W4) := Lib.hid (by rw [hW]; exact ba _ _)
    have u0 : Hid (W4.cell? ⟨W3.heap.size, 0, none⟩ = some (.string ⟨#[]⟩)) := Lib.hid (by rw [hW]; simp [go_sem])
    have u1 : Hid (W4.cell? ⟨W3.heap.size, 1, none⟩ = some (.int .u8 0)) := Lib.hid (by rw [hW]; simp [go_sem])
    have uf : Hid (W4.frozen? ⟨W3.heap.size, 1, none⟩ = false) := Lib.hid (by rw [hW]; simp [go_sem])
    have hlt4 : W3.heap.size < W4.heap.size := by rw [hW]; simp
    replace ca := ac B4.out ca
    replace a5 := ac B4.out a5
    clear hW a1
    replace s1 : Hid (Seg W4 A1 0 (tkL tk)) := Lib.hid (s1.out.after B4.out)
    replace B3 : Hid (Below A1 w2 W4) := Lib.hid (B3.out.trans (B4.out.mono (by omega)))
    obtain ⟨U, hU⟩ : ∃ x, W3.heap.size = x := ⟨_, rfl⟩
    rw [hU] at u0 u1 uf hlt4 hsz3 ⊢
    clear hU B4
    have C19 := Lib.hid (fun w (h : TAt w A1 0 tk) => turn_c A1 0 tk (by rcases HKD.out with h | h <;> rw [h] <;> rfl) w h)
    have C18 := Lib.hid (fun w c0 c1 f1 => (by have := unit_c 0 U ⟨#[]⟩ tk (by rcases HKD.out with h | h <;> omega) w c0 c1 f1; rwa [HST.out, tkV_eq HCH.out] at this : Calls Tryd.prog 18 #[.pointer (some ⟨U, 0, none⟩), tkV tk] w (UnP U ⟨#[]⟩ 2 w)))
    have a0 : W4.cell? ⟨A1, 0, none⟩ = some (.pointer none) := by simpa using s1.out 0 _ rfl
    have a1 : W4.cell? ⟨A1, 1, none⟩ = some (.string tk.tx) := by simpa using s1.out 1 _ rfl
    have a2 : W4.cell? ⟨A1, 2, none⟩ = some (.int .i32 tk.lo) := by simpa using s1.out 2 _ rfl
    have a3 : W4.cell? ⟨A1, 3, none⟩ = some (.int .u32 tk.pl) := by simpa using s1.out 3 _ rfl
    have a4 : W4.cell? ⟨A1, 4, none⟩ = some (.int .u16 tk.uo) := by simpa using s1.out 4 _ rfl
    have a6 : W4.cell? ⟨A1, 6, none⟩ = some (.int .u8 tk.ws) := by simpa using s1.out 6 _ rfl
    have HAL := Lib.hid (rfl : al = al)
    obtain ⟨al', hal'⟩ : ∃ x, x = al := ⟨_, rfl⟩
    rw [← hal'] at ca
    replace hal' := Lib.hid hal'
    cases al'
    all_goals
      go_upto_region 10 with (first | (go_at_call 16; (with_reducible refine (C16.out _).mono ?_); rintro e wz ⟨rfl, rfl⟩) | (go_at_call 18; (with_reducible refine (C18.out _ u0.out u1.out uf.out).mono ?_); rintro e w4 ⟨rfl, o4, v0, v1, vf⟩; replace o4 := Lib.hid o4; replace v0 := Lib.hid v0; replace v1 := Lib.hid v1; replace vf := Lib.hid vf))
      clear ca a0 a1 a2 a3 a4 a5 a6 u0 u1 uf
      replace s1 : Hid (Seg w4 A1 0 (tkL tk)) := Lib.hid (s1.out.only o4.out (by omega))
      have ta := Lib.hid (s1.out.tat HCH.out)
      have x1 := v1.out
      go_upto_region 12 with (first | (go_at_call 19; (with_reducible refine (C19.out _ ta.out).mono ?_); rintro e wz ⟨rfl, rfl⟩) | (go_at_call 16; (with_reducible refine (C16.out _).mono ?_); rintro e wz ⟨rfl, rfl⟩))
      have a0 : w4.cell? ⟨A1, 0, none⟩ = some (.pointer none) := by simpa using s1.out 0 _ rfl
      have a1 : w4.cell? ⟨A1, 1, none⟩ = some (.string tk.tx) := by simpa using s1.out 1 _ rfl
      have a2 : w4.cell? ⟨A1, 2, none⟩ = some (.int .i32 tk.lo) := by simpa using s1.out 2 _ rfl
      have a3 : w4.cell? ⟨A1, 3, none⟩ = some (.int .u32 tk.pl) := by simpa using s1.out 3 _ rfl
      have a4 : w4.cell? ⟨A1, 4, none⟩ = some (.int .u16 tk.uo) := by simpa using s1.out 4 _ rfl
      have a5 : w4.cell? ⟨A1, 5, none⟩ = some (.int .u8 tk.kd) := by simpa using s1.out 5 _ rfl
      have a6 : w4.cell? ⟨A1, 6, none⟩ = some (.int .u8 tk.ws) := by simpa using s1.out 6 _ rfl
      have x0 := v0.out
      have B3' : Below w2.heap.size w2 W4 := by rw [hA.out]; exact B3.out
      have O5 : Hid (Only (fun z => z = b) w w4) := Lib.hid (o2.out.trans (Only.shrink B3' o4.out (fun z e hz => by have := hA.out; omega)))
      have t5 : Hid (Trk w4 b F kt al imp ky) := Lib.hid ((t2.out.after B3').only o4.out (by omega))
      have D5 : Hid (Seg w4 Dd 0 (dcL kt' (.slice (some ⟨T, 0, none⟩) 1 cc) lo len key imp)) := Lib.hid ((D2.out.after B3').only o4.out (by omega))
      have C20 := Lib.hid (upd_a b k R n c (F k) ⟨tk, ⟨#[]⟩, 2, (n : Int) - 1, true⟩ w4 t5.out.room hk (t5.out.cn k hk) hn HE1.out)
      have n0 : (0 : Int) ≤ n := by omega
      have n1 : (n : Int) ≤ 4096 := by omega
      have n2 : (1 : Int) ≤ n := by omega
      have wn : IntKind.u32.wrap ((n : Int) - 1) = (n : Int) - 1 := by rw [IntKind.wrap_u32]; omega
      go_upto_region 13 with (go_at_call 20; (with_reducible refine C20.out.mono ?_); rintro e w6 ⟨rfl, p6, o6⟩; replace p6 := Lib.hid p6; replace o6 := Lib.hid o6)
      clear a0 a1 a2 a3 a4 a5 a6 x0 x1
      have t6 : Hid (Trk w6 b (upF F k ⟨tk, ⟨#[]⟩, 2, (n : Int) - 1, true⟩) kt al imp ky) := Lib.hid (t5.out.put p6.out)
      have D6 : Hid (Seg w6 Dd 0 (dcL kt' (.slice (some ⟨T, 0, none⟩) 1 cc) lo len key imp)) := Lib.hid (D5.out.only o6.out (by have h1 := HbD.out; omega))
      have e2 : w6.cell? ⟨Dd, 2, none⟩ = some (.int .i32 lo) := by simpa using D6.out 2 _ rfl
      have e3 : w6.cell? ⟨Dd, 3, none⟩ = some (.int .i32 len) := by simpa using D6.out 3 _ rfl
      have O6 : Hid (Only (fun z => z = b) w w6) := Lib.hid (O5.out.trans o6.out)
      go_wp2_with (go_at_call 21; (with_reducible refine (hC.out _ t6.out O6.out).mono ?_); intro e w7 hq; obtain rfl := hQ.out _ _ _ hq; replace hq := Lib.hid hq)
      exact bodyPost_ret (v := .tuple #[]) (by simp [results, Tryd.results13, go_sem]) rfl ⟨w6, ⟨t6.out, O6.out⟩, hq.out⟩
set_option maxRecDepth 100000 in
set_option maxHeartbeats 4000000 in
theorem ms_au (b R n c Dd T cc k : Nat) (F : Nat → Sd) (kt kt' : ByteArray) (al imp0 imp m : Bool) (tk : Tk) (ky lo len key : Int) (Q : World → Ending → World → Prop) (w : World) (h : Trk w b F kt al imp0 ky) (hFr : imp0 = imp ∨ F = fun _ => Sd0) (hD : Seg w Dd 0 (dcL kt' (.slice (some ⟨T, 0, none⟩) 1 cc) lo len key imp)) (ht : TAt w T 0 tk) (hch : tk.ch = .pointer none) (hkd : tk.kd = 29) (htx : tk.tx = ⟨#[97, 117, 116, 111]⟩) (hal : al = true)  (hk : k < 4) (hn : n ≤ 4096) (hn1 : 1 ≤ n) (hbD : b ≠ Dd) (hbT : b ≠ T) (e1 : ((F k).t.kd != 0) = false)
    (hC : ∀ w1, Trk w1 b (upF F k ⟨tk, ⟨#[]⟩, 0, (n : Int) - 1, true⟩) kt al imp ky → Only (fun z => z = b) w w1 → Calls Tryd.prog 21 #[.pointer (some ⟨b, 0, none⟩), .slice (some ⟨R, 0, none⟩) n c, .agg #[.int .i32 lo, .int .i32 len], .bool m] w1 (Q w1)) (hQ : ∀ w1 e w', Q w1 e w' → e = .returned (.tuple #[])) :
    Calls Tryd.prog 13 #[.pointer (some ⟨b, 0, none⟩), .slice (some ⟨R, 0, none⟩) n c, .pointer (some ⟨Dd, 0, none⟩), .bool m, .int .i64 k] w (Via (fun w1 => Trk w1 b (upF F k ⟨tk, ⟨#[]⟩, 0, (n : Int) - 1, true⟩) kt al imp ky ∧ Only (fun z => z = b) w w1) Q) := by
  have H := Lib.hid h
  have HD := Lib.hid hD
  have HT := Lib.hid (ht.seg hch)
  have HCH := Lib.hid hch
  replace hFr := Lib.hid hFr
  have HbD := Lib.hid hbD
  have HbT := Lib.hid hbT
  have hbl : b < w.heap.size := h.room.lt (by omega)
  have hDl : Dd < w.heap.size := block_lt_of_cell (hD 0 _ rfl)
  have hTl : T < w.heap.size := block_lt_of_cell ht.c0
  replace hC := Lib.hid hC
  replace hQ := Lib.hid hQ
  have HE1 := Lib.hid e1
  have HKD := Lib.hid hkd
  have HTX := Lib.hid htx
  have HAL := Lib.hid hal
  clear htx hal
  clear h hD ht hch hbD hbT hkd e1
  go_enter Tryd.func13, Tryd.ntmps13
  go_upto_region 0 with fail
  have y72 : ∀ d os, (Sort.grow (redrawn w d) os).cell? ⟨b, 46, none⟩ = some (.bool imp0) := fun d os => cell_regrown H.out.im d os
  have y5 : ∀ d os, (Sort.grow (redrawn w d) os).cell? ⟨Dd, 5, none⟩ = some (.bool imp) := fun d os => cell_regrown (by simpa using HD.out 5 _ rfl) d os
  refine drawn_tail 8 (by kernel_rfl) (by kernel_rfl) (by kernel_rfl) (fun Q hQ => ?_)
  simp only [List.take_succ_cons, List.take_zero, List.drop_succ_cons, List.drop_zero]
  repeat (quiet_step (fail))
  refine wpQuiet_nil ?_
  intro w1 hw
  have b1 : Hid (Below w.heap.size w w1) := Lib.hid (by
    obtain ⟨⟨d, os⟩, rfl⟩ := hw
    exact below_regrown _ d os)
  clear hw y72 y5
  go_upto_if 21 with fail
  go_cut [0] (fun v wx => v = .pointer (some ⟨b, 0, none⟩) ∧ Trk wx b F kt al imp ky ∧ Only (fun z => z = b) w wx)
  case first =>
    have t1 : Hid (Trk w1 b F kt al imp0 ky) := Lib.hid (H.out.after b1.out)
    cases imp0 <;> cases imp
    · go_wp2
      go_meet
      exact ⟨rfl, t1.out, Only.of b1.out⟩
    · have hFF := Lib.hid (hFr.out.resolve_left (by decide))
      have d5 := (by simpa using (HD.out.after b1.out) 5 _ rfl : w1.cell? ⟨Dd, 5, none⟩ = some (.bool true))
      have hbD' := HbD.out
      go_upto_region 2 with ((with_reducible refine wpList_at (o := ⟨none, .store 63 (.tmp 25) (.tmp 23), _, _, _, _⟩) ?_); refine wpList_store_room (op := ⟨none, .store 63 (.tmp 25) (.tmp 23), _, _, _, _⟩) rfl 63 (.tmp 25) (.tmp 23) rfl b 1 48 (trk4 fun _ => Sd0) t1.out.room (by show 1 + 44 ≤ 48; omega) rfl rfl (i63 _) trk4_one ?_; intro w2 hW2)
      have o2 : Hid (Only (fun z => z = b) w1 w2) := Lib.hid (by rw [hW2]; exact Only.setCells (S := fun z => z = b) b rfl _ _ (Only.refl _))
      have d5' : w2.cell? ⟨Dd, 5, none⟩ = some (.bool true) := o2.out.keep d5 (fun e => hbD' e.symm)
      obtain ⟨v72, e72, f72⟩ := (o2.out.rooms _ _ t1.out.room) 46 (by omega)
      replace hW2 := Lib.hid hW2
      clear d5
      go_wp2
      go_meet
      exact ⟨rfl, by rw [hFF.out]; exact t1.out.reset (by rw [hW2.out]), ((Only.of b1.out).trans o2.out).set _ _ rfl⟩
    · have hFF := Lib.hid (hFr.out.resolve_left (by decide))
      have d5 := (by simpa using (HD.out.after b1.out) 5 _ rfl : w1.cell? ⟨Dd, 5, none⟩ = some (.bool false))
      have hbD' := HbD.out
      go_upto_region 2 with ((with_reducible refine wpList_at (o := ⟨none, .store 63 (.tmp 25) (.tmp 23), _, _, _, _⟩) ?_); refine wpList_store_room (op := ⟨none, .store 63 (.tmp 25) (.tmp 23), _, _, _, _⟩) rfl 63 (.tmp 25) (.tmp 23) rfl b 1 48 (trk4 fun _ => Sd0) t1.out.room (by show 1 + 44 ≤ 48; omega) rfl rfl (i63 _) trk4_one ?_; intro w2 hW2)
      have o2 : Hid (Only (fun z => z = b) w1 w2) := Lib.hid (by rw [hW2]; exact Only.setCells (S := fun z => z = b) b rfl _ _ (Only.refl _))
      have d5' : w2.cell? ⟨Dd, 5, none⟩ = some (.bool false) := o2.out.keep d5 (fun e => hbD' e.symm)
      obtain ⟨v72, e72, f72⟩ := (o2.out.rooms _ _ t1.out.room) 46 (by omega)
      replace hW2 := Lib.hid hW2
      clear d5
      go_wp2
      go_meet
      exact ⟨rfl, by rw [hFF.out]; exact t1.out.reset (by rw [hW2.out]), ((Only.of b1.out).trans o2.out).set _ _ rfl⟩
    · go_wp2
      go_meet
      exact ⟨rfl, t1.out, Only.of b1.out⟩
  case rest =>
    obtain ⟨rfl, t2, o2⟩ := hcut
    obtain ⟨w2, rfl⟩ : ∃ w2, w2 = wc := ⟨_, rfl⟩
    replace t2 := Lib.hid t2
    replace o2 := Lib.hid o2
    clear b1
    have D2 : Hid (Seg w2 Dd 0 (dcL kt' (.slice (some ⟨T, 0, none⟩) 1 cc) lo len key imp)) := Lib.hid (HD.out.only o2.out (fun e => HbD.out e.symm))
    have T2 : Hid (Seg w2 T 0 (tkL tk)) := Lib.hid (HT.out.only o2.out (fun e => HbT.out e.symm))
    replace hbl : b < w2.heap.size := Nat.lt_of_lt_of_le hbl o2.out.size
    replace hDl : Dd < w2.heap.size := Nat.lt_of_lt_of_le hDl o2.out.size
    replace hTl : T < w2.heap.size := Nat.lt_of_lt_of_le hTl o2.out.size
    clear HD HT H
    have d1 : w2.cell? ⟨Dd, 1, none⟩ = some (.slice (some ⟨T, 0, none⟩) 1 cc) := by simpa using D2.out 1 _ rfl
    go_upto_region 5 with fail
    clear d1
    have d0 : w2.cell? ⟨T, 0, none⟩ = some (.pointer none) := by simpa using T2.out 0 _ rfl
    have d1 : w2.cell? ⟨T, 1, none⟩ = some (.string tk.tx) := by simpa using T2.out 1 _ rfl
    have d2 : w2.cell? ⟨T, 2, none⟩ = some (.int .i32 tk.lo) := by simpa using T2.out 2 _ rfl
    have d3 : w2.cell? ⟨T, 3, none⟩ = some (.int .u32 tk.pl) := by simpa using T2.out 3 _ rfl
    have d4 : w2.cell? ⟨T, 4, none⟩ = some (.int .u16 tk.uo) := by simpa using T2.out 4 _ rfl
    have d5 : w2.cell? ⟨T, 5, none⟩ = some (.int .u8 tk.kd) := by simpa using T2.out 5 _ rfl
    have d6 : w2.cell? ⟨T, 6, none⟩ = some (.int .u8 tk.ws) := by simpa using T2.out 6 _ rfl
    go_upto_region 6 with fail
    refine wp_gen (fun W3 hW => ?_)
    have B3 : Hid (Below w2.heap.size w2 W3) := Lib.hid (by rw [hW]; exact ba _ _)
    have s1 : Hid (Seg W3 w2.heap.size 0 (tkL tk)) := Lib.hid (by rw [hW]; exact Seg.new w2 (tkL tk) 40)
    have hszh : Hid (W3.heap.size = w2.heap.size + 1) := Lib.hid (by rw [hW]; simp)
    clear hW d0 d1 d2 d3 d4 d5 d6
    generalize hA : w2.heap.size = A1 at *
    replace hA := Lib.hid hA
    have a5 : W3.cell? ⟨A1, 5, none⟩ = some (.int .u8 tk.kd) := by simpa using s1.out 5 _ rfl
    have a1 : W3.cell? ⟨A1, 1, none⟩ = some (.string tk.tx) := by simpa using s1.out 1 _ rfl
    have C16 : Hid (∀ w, Calls Tryd.prog 16 #[.int .u8 29] w (fun e w' => e = .returned (.bool false) ∧ w = w')) := Lib.hid (fun w => num_c 29 w)
    have C17 := Lib.hid (fun w => eqf_c w)
    have ca := t2.out.after (by rw [hA.out]; exact B3.out)
    replace ca := ca.ca
    rw [HAL.out] at ca
    rw [HKD.out] at a5
    rw [HTX.out] at a1
    have hsz3 : A1 < W3.heap.size := by have := hszh.out; omega
    have W3b := Lib.hid (rfl : W3.heap.size = W3.heap.size)
    go_upto_region 7 with (first | (go_at_call 16; (with_reducible refine (C16.out _).mono ?_); rintro e wz ⟨rfl, rfl⟩) | (go_at_call 17; (with_reducible refine (C17.out _).mono ?_); rintro e W3e ⟨rfl, b3e⟩; replace b3e := Lib.hid b3e))
    clear ca a5 a1
    replace s1 : Hid (Seg W3e A1 0 (tkL tk)) := Lib.hid (s1.out.after b3e.out)
    replace B3 : Hid (Below A1 w2 W3e) := Lib.hid (B3.out.trans (b3e.out.mono (by omega)))
    replace hsz3 : A1 < W3e.heap.size := Nat.lt_of_lt_of_le hsz3 b3e.out.size
    have ca := (t2.out.after (by rw [hA.out]; exact B3.out)).ca
    rw [HAL.out] at ca
    have a5 : W3e.cell? ⟨A1, 5, none⟩ = some (.int .u8 29) := by rw [← HKD.out]; simpa using s1.out 5 _ rfl
    go_upto_region 8 with fail
    refine wp_gen (fun W4 hW => ?_)
    have B4 : Hid (Below W3e.heap.size W3e W4) := Lib.hid (by rw [hW]; exact ba _ _)
    have u0 : Hid (W4.cell? ⟨W3e.heap.size, 0, none⟩ = some (.string ⟨#[]⟩)) := Lib.hid (by rw [hW]; simp [go_sem])
    have u1 : Hid (W4.cell? ⟨W3e.heap.size, 1, none⟩ = some (.int .u8 0)) := Lib.hid (by rw [hW]; simp [go_sem])
    have uf : Hid (W4.frozen? ⟨W3e.heap.size, 1, none⟩ = false) := Lib.hid (by rw [hW]; simp [go_sem])
    have hlt4 : W3e.heap.size < W4.heap.size := by rw [hW]; simp
    replace ca := ac B4.out ca
    replace a5 := ac B4.out a5
    clear hW 
    replace s1 : Hid (Seg W4 A1 0 (tkL tk)) := Lib.hid (s1.out.after B4.out)
    replace B3 : Hid (Below A1 w2 W4) := Lib.hid (B3.out.trans (B4.out.mono (by omega)))
    obtain ⟨U, hU⟩ : ∃ x, W3e.heap.size = x := ⟨_, rfl⟩
    rw [hU] at u0 u1 uf hlt4 hsz3 ⊢
    clear hU B4
    have C19 := Lib.hid (fun w (h : TAt w A1 0 tk) => turn_c A1 0 tk (by rw [HKD.out]; rfl) w h)
    have ta := Lib.hid (s1.out.tat HCH.out)
    have x1 := u1.out
    go_upto_region 12 with (first | (go_at_call 19; (with_reducible refine (C19.out _ ta.out).mono ?_); rintro e wz ⟨rfl, rfl⟩) | (go_at_call 16; (with_reducible refine (C16.out _).mono ?_); rintro e wz ⟨rfl, rfl⟩))
    clear ca a5
    have a0 : W4.cell? ⟨A1, 0, none⟩ = some (.pointer none) := by simpa using s1.out 0 _ rfl
    have a1 : W4.cell? ⟨A1, 1, none⟩ = some (.string tk.tx) := by simpa using s1.out 1 _ rfl
    have a2 : W4.cell? ⟨A1, 2, none⟩ = some (.int .i32 tk.lo) := by simpa using s1.out 2 _ rfl
    have a3 : W4.cell? ⟨A1, 3, none⟩ = some (.int .u32 tk.pl) := by simpa using s1.out 3 _ rfl
    have a4 : W4.cell? ⟨A1, 4, none⟩ = some (.int .u16 tk.uo) := by simpa using s1.out 4 _ rfl
    have a5 : W4.cell? ⟨A1, 5, none⟩ = some (.int .u8 tk.kd) := by simpa using s1.out 5 _ rfl
    have a6 : W4.cell? ⟨A1, 6, none⟩ = some (.int .u8 tk.ws) := by simpa using s1.out 6 _ rfl
    have x0 := u0.out
    have B3' : Below w2.heap.size w2 W4 := by rw [hA.out]; exact B3.out
    have O5 : Hid (Only (fun z => z = b) w W4) := Lib.hid (o2.out.trans (Only.shrink B3' (Only.refl (S := fun z => z = U) W4) (fun z e hz => by have := hA.out; omega)))
    have t5 : Hid (Trk W4 b F kt al imp ky) := Lib.hid ((t2.out.after B3').only (Only.refl (S := fun z => z = U) W4) (by omega))
    have D5 : Hid (Seg W4 Dd 0 (dcL kt' (.slice (some ⟨T, 0, none⟩) 1 cc) lo len key imp)) := Lib.hid ((D2.out.after B3').only (Only.refl (S := fun z => z = U) W4) (by omega))
    have C20 := Lib.hid (upd_a b k R n c (F k) ⟨tk, ⟨#[]⟩, 0, (n : Int) - 1, true⟩ W4 t5.out.room hk (t5.out.cn k hk) hn HE1.out)
    have n0 : (0 : Int) ≤ n := by omega
    have n1 : (n : Int) ≤ 4096 := by omega
    have n2 : (1 : Int) ≤ n := by omega
    have wn : IntKind.u32.wrap ((n : Int) - 1) = (n : Int) - 1 := by rw [IntKind.wrap_u32]; omega
    go_upto_region 13 with (go_at_call 20; (with_reducible refine C20.out.mono ?_); rintro e w6 ⟨rfl, p6, o6⟩; replace p6 := Lib.hid p6; replace o6 := Lib.hid o6)
    clear a0 a1 a2 a3 a4 a5 a6 x0 x1
    have t6 : Hid (Trk w6 b (upF F k ⟨tk, ⟨#[]⟩, 0, (n : Int) - 1, true⟩) kt al imp ky) := Lib.hid (t5.out.put p6.out)
    have D6 : Hid (Seg w6 Dd 0 (dcL kt' (.slice (some ⟨T, 0, none⟩) 1 cc) lo len key imp)) := Lib.hid (D5.out.only o6.out (by have h1 := HbD.out; omega))
    have e2 : w6.cell? ⟨Dd, 2, none⟩ = some (.int .i32 lo) := by simpa using D6.out 2 _ rfl
    have e3 : w6.cell? ⟨Dd, 3, none⟩ = some (.int .i32 len) := by simpa using D6.out 3 _ rfl
    have O6 : Hid (Only (fun z => z = b) w w6) := Lib.hid (O5.out.trans o6.out)
    go_wp2_with (go_at_call 21; (with_reducible refine (hC.out _ t6.out O6.out).mono ?_); intro e w7 hq; obtain rfl := hQ.out _ _ _ hq; replace hq := Lib.hid hq)
    exact bodyPost_ret (v := .tuple #[]) (by simp [results, Tryd.results13, go_sem]) rfl ⟨w6, ⟨t6.out, O6.out⟩, hq.out⟩
set_option maxRecDepth 100000 in
set_option maxHeartbeats 4000000 in
theorem ms_rej (b R n c Dd T cc k : Nat) (F : Nat → Sd) (kt kt' : ByteArray) (al imp0 imp m : Bool) (tk : Tk) (ky lo len key : Int) (w : World) (h : Trk w b F kt al imp0 ky) (hFr : imp0 = imp ∨ F = fun _ => Sd0) (hD : Seg w Dd 0 (dcL kt' (.slice (some ⟨T, 0, none⟩) 1 cc) lo len key imp)) (ht : TAt w T 0 tk) (hch : tk.ch = .pointer none) (hkd : tk.kd = 29) (hal : al = false) (hbD : b ≠ Dd) (hbT : b ≠ T) :
    Calls Tryd.prog 13 #[.pointer (some ⟨b, 0, none⟩), .slice (some ⟨R, 0, none⟩) n c, .pointer (some ⟨Dd, 0, none⟩), .bool m, .int .i64 k] w (fun e w' => e = .returned (.tuple #[]) ∧ Trk w' b (fun _ => Sd0) kt al imp ky ∧ Only (fun z => z = b) w w') := by
  have H := Lib.hid h
  have HD := Lib.hid hD
  have HT := Lib.hid (ht.seg hch)
  have HCH := Lib.hid hch
  replace hFr := Lib.hid hFr
  have HbD := Lib.hid hbD
  have HbT := Lib.hid hbT
  have hbl : b < w.heap.size := h.room.lt (by omega)
  have hDl : Dd < w.heap.size := block_lt_of_cell (hD 0 _ rfl)
  have hTl : T < w.heap.size := block_lt_of_cell ht.c0
  have HKD := Lib.hid hkd
  have HAL := Lib.hid hal
  clear h hD ht hch hbD hbT hkd hal
  go_enter Tryd.func13, Tryd.ntmps13
  go_upto_region 0 with fail
  have y72 : ∀ d os, (Sort.grow (redrawn w d) os).cell? ⟨b, 46, none⟩ = some (.bool imp0) := fun d os => cell_regrown H.out.im d os
  have y5 : ∀ d os, (Sort.grow (redrawn w d) os).cell? ⟨Dd, 5, none⟩ = some (.bool imp) := fun d os => cell_regrown (by simpa using HD.out 5 _ rfl) d os
  refine drawn_tail 8 (by kernel_rfl) (by kernel_rfl) (by kernel_rfl) (fun Q hQ => ?_)
  simp only [List.take_succ_cons, List.take_zero, List.drop_succ_cons, List.drop_zero]
  repeat (quiet_step (fail))
  refine wpQuiet_nil ?_
  intro w1 hw
  have b1 : Hid (Below w.heap.size w w1) := Lib.hid (by
    obtain ⟨⟨d, os⟩, rfl⟩ := hw
    exact below_regrown _ d os)
  clear hw y72 y5
  go_upto_if 21 with fail
  go_cut [0] (fun v wx => v = .pointer (some ⟨b, 0, none⟩) ∧ Trk wx b F kt al imp ky ∧ Only (fun z => z = b) w wx)
  case first =>
    have t1 : Hid (Trk w1 b F kt al imp0 ky) := Lib.hid (H.out.after b1.out)
    cases imp0 <;> cases imp
    · go_wp2
      go_meet
      exact ⟨rfl, t1.out, Only.of b1.out⟩
    · have hFF := Lib.hid (hFr.out.resolve_left (by decide))
      have d5 := (by simpa using (HD.out.after b1.out) 5 _ rfl : w1.cell? ⟨Dd, 5, none⟩ = some (.bool true))
      have hbD' := HbD.out
      go_upto_region 2 with ((with_reducible refine wpList_at (o := ⟨none, .store 63 (.tmp 25) (.tmp 23), _, _, _, _⟩) ?_); refine wpList_store_room (op := ⟨none, .store 63 (.tmp 25) (.tmp 23), _, _, _, _⟩) rfl 63 (.tmp 25) (.tmp 23) rfl b 1 48 (trk4 fun _ => Sd0) t1.out.room (by show 1 + 44 ≤ 48; omega) rfl rfl (i63 _) trk4_one ?_; intro w2 hW2)
      have o2 : Hid (Only (fun z => z = b) w1 w2) := Lib.hid (by rw [hW2]; exact Only.setCells (S := fun z => z = b) b rfl _ _ (Only.refl _))
      have d5' : w2.cell? ⟨Dd, 5, none⟩ = some (.bool true) := o2.out.keep d5 (fun e => hbD' e.symm)
      obtain ⟨v72, e72, f72⟩ := (o2.out.rooms _ _ t1.out.room) 46 (by omega)
      replace hW2 := Lib.hid hW2
      clear d5
      go_wp2
      go_meet
      exact ⟨rfl, by rw [hFF.out]; exact t1.out.reset (by rw [hW2.out]), ((Only.of b1.out).trans o2.out).set _ _ rfl⟩
    · have hFF := Lib.hid (hFr.out.resolve_left (by decide))
      have d5 := (by simpa using (HD.out.after b1.out) 5 _ rfl : w1.cell? ⟨Dd, 5, none⟩ = some (.bool false))
      have hbD' := HbD.out
      go_upto_region 2 with ((with_reducible refine wpList_at (o := ⟨none, .store 63 (.tmp 25) (.tmp 23), _, _, _, _⟩) ?_); refine wpList_store_room (op := ⟨none, .store 63 (.tmp 25) (.tmp 23), _, _, _, _⟩) rfl 63 (.tmp 25) (.tmp 23) rfl b 1 48 (trk4 fun _ => Sd0) t1.out.room (by show 1 + 44 ≤ 48; omega) rfl rfl (i63 _) trk4_one ?_; intro w2 hW2)
      have o2 : Hid (Only (fun z => z = b) w1 w2) := Lib.hid (by rw [hW2]; exact Only.setCells (S := fun z => z = b) b rfl _ _ (Only.refl _))
      have d5' : w2.cell? ⟨Dd, 5, none⟩ = some (.bool false) := o2.out.keep d5 (fun e => hbD' e.symm)
      obtain ⟨v72, e72, f72⟩ := (o2.out.rooms _ _ t1.out.room) 46 (by omega)
      replace hW2 := Lib.hid hW2
      clear d5
      go_wp2
      go_meet
      exact ⟨rfl, by rw [hFF.out]; exact t1.out.reset (by rw [hW2.out]), ((Only.of b1.out).trans o2.out).set _ _ rfl⟩
    · go_wp2
      go_meet
      exact ⟨rfl, t1.out, Only.of b1.out⟩
  case rest =>
    obtain ⟨rfl, t2, o2⟩ := hcut
    obtain ⟨w2, rfl⟩ : ∃ w2, w2 = wc := ⟨_, rfl⟩
    replace t2 := Lib.hid t2
    replace o2 := Lib.hid o2
    clear b1
    have D2 : Hid (Seg w2 Dd 0 (dcL kt' (.slice (some ⟨T, 0, none⟩) 1 cc) lo len key imp)) := Lib.hid (HD.out.only o2.out (fun e => HbD.out e.symm))
    have T2 : Hid (Seg w2 T 0 (tkL tk)) := Lib.hid (HT.out.only o2.out (fun e => HbT.out e.symm))
    replace hbl : b < w2.heap.size := Nat.lt_of_lt_of_le hbl o2.out.size
    replace hDl : Dd < w2.heap.size := Nat.lt_of_lt_of_le hDl o2.out.size
    replace hTl : T < w2.heap.size := Nat.lt_of_lt_of_le hTl o2.out.size
    clear HD HT H
    have d1 : w2.cell? ⟨Dd, 1, none⟩ = some (.slice (some ⟨T, 0, none⟩) 1 cc) := by simpa using D2.out 1 _ rfl
    go_upto_region 5 with fail
    clear d1
    have d0 : w2.cell? ⟨T, 0, none⟩ = some (.pointer none) := by simpa using T2.out 0 _ rfl
    have d1 : w2.cell? ⟨T, 1, none⟩ = some (.string tk.tx) := by simpa using T2.out 1 _ rfl
    have d2 : w2.cell? ⟨T, 2, none⟩ = some (.int .i32 tk.lo) := by simpa using T2.out 2 _ rfl
    have d3 : w2.cell? ⟨T, 3, none⟩ = some (.int .u32 tk.pl) := by simpa using T2.out 3 _ rfl
    have d4 : w2.cell? ⟨T, 4, none⟩ = some (.int .u16 tk.uo) := by simpa using T2.out 4 _ rfl
    have d5 : w2.cell? ⟨T, 5, none⟩ = some (.int .u8 tk.kd) := by simpa using T2.out 5 _ rfl
    have d6 : w2.cell? ⟨T, 6, none⟩ = some (.int .u8 tk.ws) := by simpa using T2.out 6 _ rfl
    go_upto_region 6 with fail
    refine wp_gen (fun W3 hW => ?_)
    have B3 : Hid (Below w2.heap.size w2 W3) := Lib.hid (by rw [hW]; exact ba _ _)
    have s1 : Hid (Seg W3 w2.heap.size 0 (tkL tk)) := Lib.hid (by rw [hW]; exact Seg.new w2 (tkL tk) 40)
    have hszh : Hid (W3.heap.size = w2.heap.size + 1) := Lib.hid (by rw [hW]; simp)
    clear hW d0 d1 d2 d3 d4 d5 d6
    generalize hA : w2.heap.size = A1 at *
    replace hA := Lib.hid hA
    have a5 : W3.cell? ⟨A1, 5, none⟩ = some (.int .u8 tk.kd) := by simpa using s1.out 5 _ rfl
    have a1 : W3.cell? ⟨A1, 1, none⟩ = some (.string tk.tx) := by simpa using s1.out 1 _ rfl
    have C16 : Hid (∀ w, Calls Tryd.prog 16 #[.int .u8 29] w (fun e w' => e = .returned (.bool false) ∧ w = w')) := Lib.hid (fun w => num_c 29 w)
    have t3 : Hid (Trk W3 b F kt al imp ky) := Lib.hid (t2.out.after (by rw [hA.out]; exact B3.out))
    have ca := t3.out.ca
    rw [HAL.out] at ca
    rw [HKD.out] at a5
    have hsz3 : A1 < W3.heap.size := by have := hszh.out; omega
    go_wp2_with (first | (go_at_call 16; (with_reducible refine (C16.out _).mono ?_); rintro e wz ⟨rfl, rfl⟩) | ((with_reducible refine wpList_at (o := ⟨none, .store 63 (.tmp 106) (.tmp 104), _, _, _, _⟩) ?_); refine wpList_store_room (op := ⟨none, .store 63 (.tmp 106) (.tmp 104), _, _, _, _⟩) rfl 63 (.tmp 106) (.tmp 104) rfl b 1 48 (trk4 fun _ => Sd0) t3.out.room (by show 1 + 44 ≤ 48; omega) rfl rfl (i63 _) trk4_one ?_; intro V hV; replace hV := Lib.hid hV))
    refine bodyPost_end (v := .tuple #[]) (by simp [results, Tryd.results13, go_sem]) rfl ⟨rfl, t3.out.reset0 hV.out, ?_⟩
    refine o2.out.trans (Only.shrink (S' := fun z => z = b) (by rw [hA.out]; exact B3.out) (by rw [hV.out]; exact Only.setCells (S := fun z => z = b) b rfl _ _ (Only.refl _)) (fun z e _ => e))
set_option maxRecDepth 100000 in
set_option maxHeartbeats 4000000 in
theorem w7 (b : Addr) (R : Value) (Dd : Addr) (m : Bool) (k : Int) (w : World) (Q : Ending → World → Prop) (h : Calls Tryd.prog 13 #[.pointer (some b), R, .pointer (some Dd), .bool m, .int .i64 k] w Q) (hQ : ∀ e w', Q e w' → e = .returned (.tuple #[])) : Calls Tryd.prog 7 #[.pointer (some b), R, .pointer (some Dd), .bool m, .int .i64 k] w Q := by
  have H := Lib.hid h
  replace hQ := Lib.hid hQ
  clear h
  go_enter Tryd.func7, Tryd.ntmps7
  go_wp2_with (go_at_call 13; (with_reducible refine H.out.mono ?_); intro e w1 hq; obtain rfl := hQ.out _ _ hq; replace hq := Lib.hid hq)
  exact bodyPost_end (v := .tuple #[]) (by simp [results, Tryd.results7, go_sem]) rfl hq.out
def stC (c : Int) : Int := if c = 4 then 2 else 0
/-- the side that a declaration of code c makes, as the n-th rule -/
def sdC (c lo : Int) (n : Nat) : Sd := ⟨zk c lo, ⟨#[]⟩, stC c, (n : Int) - 1, true⟩
theorem un_zk (x tl : Int) (h0 : 0 ≤ x) (h4 : x ≤ 4) (h3 : x ≠ 3) : unitSt 0 (zk x tl) = stC x := by
  show (if kdS x = 34 then (0 : Int) else if kdS x = 30 then (if (txS x).toList = [48] then 0 else 2) else 2) = stC x
  rcases c5 h0 h4 with rfl | rfl | rfl | rfl | rfl
  · decide +kernel
  · decide +kernel
  · decide +kernel
  · exact absurd rfl h3
  · decide +kernel
theorem ms_ok (b R n c Dd T cc k : Nat) (F : Nat → Sd) (kt kt' : ByteArray) (al imp0 imp m : Bool) (x tl : Int) (h0 : 0 ≤ x) (h4 : x ≤ 4) (ky lo len key : Int) (Q : World → Ending → World → Prop) (w : World) (h : Trk w b F kt al imp0 ky) (hFr : imp0 = imp ∨ F = fun _ => Sd0) (hD : Seg w Dd 0 (dcL kt' (.slice (some ⟨T, 0, none⟩) 1 cc) lo len key imp)) (ht : TAt w T 0 (zk x tl)) (ha : (x != 3 || al) = true) (hk : k < 4) (hn : n ≤ 4096) (hn1 : 1 ≤ n) (hbD : b ≠ Dd) (hbT : b ≠ T) (e1 : ((F k).t.kd != 0) = false)
    (hC : ∀ w1, Trk w1 b (upF F k (sdC x tl n)) kt al imp ky → Only (fun z => z = b) w w1 → Calls Tryd.prog 21 #[.pointer (some ⟨b, 0, none⟩), .slice (some ⟨R, 0, none⟩) n c, .agg #[.int .i32 lo, .int .i32 len], .bool m] w1 (Q w1)) (hQ : ∀ w1 e w', Q w1 e w' → e = .returned (.tuple #[])) :
    Calls Tryd.prog 7 #[.pointer (some ⟨b, 0, none⟩), .slice (some ⟨R, 0, none⟩) n c, .pointer (some ⟨Dd, 0, none⟩), .bool m, .int .i64 k] w (Via (fun w1 => Trk w1 b (upF F k (sdC x tl n)) kt al imp ky ∧ Only (fun z => z = b) w w1) Q) := by
  refine w7 _ _ _ _ _ _ _ ?_ (fun e w' h => by obtain ⟨w1, -, h⟩ := h; exact hQ _ _ _ h)
  by_cases e4 : x = 4
  · subst e4
    exact ms_n2 b R n c Dd T cc k F kt kt' al imp0 imp m (zk 4 tl) ky lo len key Q w h hFr hD ht rfl (.inr rfl) (un_zk 4 tl h0 h4 (by decide)) hk hn hn1 hbD hbT e1 hC hQ
  by_cases e3 : x = 3
  · subst e3
    exact ms_au b R n c Dd T cc k F kt kt' al imp0 imp m (zk 3 tl) ky lo len key Q w h hFr hD ht rfl rfl rfl (by simpa using ha) hk hn hn1 hbD hbT e1 hC hQ
  have hs : sdC x tl n = ⟨zk x tl, ⟨#[]⟩, 0, (n : Int) - 1, true⟩ := by unfold sdC stC; rw [if_neg e4]
  rw [hs] at hC ⊢
  refine ms_n0 b R n c Dd T cc k F kt kt' al imp0 imp m (zk x tl) ky lo len key Q w h hFr hD ht rfl ?_ ?_ hk hn hn1 hbD hbT e1 hC hQ
  · rcases (by omega : x = 0 ∨ x = 1 ∨ x = 2) with rfl | rfl | rfl
    · exact .inr rfl
    · exact .inl rfl
    · exact .inl rfl
  · rw [un_zk x tl h0 h4 e3]; unfold stC; rw [if_neg e4]
theorem ms_no (b R n c Dd T cc k : Nat) (F : Nat → Sd) (kt kt' : ByteArray) (al imp0 imp m : Bool) (x tl : Int) (ky lo len key : Int) (w : World) (h : Trk w b F kt al imp0 ky) (hFr : imp0 = imp ∨ F = fun _ => Sd0) (hD : Seg w Dd 0 (dcL kt' (.slice (some ⟨T, 0, none⟩) 1 cc) lo len key imp)) (ht : TAt w T 0 (zk x tl)) (ha : (x != 3 || al) = false) (hbD : b ≠ Dd) (hbT : b ≠ T) :
    Calls Tryd.prog 7 #[.pointer (some ⟨b, 0, none⟩), .slice (some ⟨R, 0, none⟩) n c, .pointer (some ⟨Dd, 0, none⟩), .bool m, .int .i64 k] w (fun e w' => e = .returned (.tuple #[]) ∧ Trk w' b (fun _ => Sd0) kt al imp ky ∧ Only (fun z => z = b) w w') := by
  refine w7 _ _ _ _ _ _ _ ?_ (fun e w' h => h.1)
  have h3 : x = 3 := by simp only [Bool.or_eq_false_iff, bne_eq_false_iff_eq] at ha; exact ha.1
  subst h3
  exact ms_rej b R n c Dd T cc k F kt kt' al imp0 imp m (zk 3 tl) ky lo len key w h hFr hD ht rfl rfl (by simpa using ha) hbD hbT
end Go.Proofs.YtgijoikmggjopaaDoor

/- compactRules in general. -/
import Derived.Test.YthdogpahkglaoaaDoorBcn
import Derived.BigRegion
set_option linter.unusedVariables false
set_option linter.unusedSimpArgs false
namespace Go.Proofs.YthdogpahkglaoaaDoor
open Go.RowKit
def QQo (a b c d : Tk) (m : Bool) (k T : Nat) (w w' : World) : Prop := w.heap.size ≤ T ∧ T < w'.heap.size ∧ (∀ i, i < k → TAt w' T (i * 7) { pick4 a b c d i with ws := wsF i k m }) ∧ RO w' T 28 ∧ Below w.heap.size w w'
def QKo (a b c d : Tk) (m : Bool) (k : Nat) (w : World) (e : Ending) (w' : World) : Prop := ∃ T, e = .returned (.slice (some ⟨T, 0, none⟩) k 4) ∧ QQo a b c d m k T w w'
/-- the merged list -/
def cntG (eqb : Bool) (k1 k2 : Nat) : Nat := if eqb = true then k1 else k1 + 1 + k2
def tokG (eqb m : Bool) (k1 : Nat) (P1 P2 : Nat → Tk) : Nat → Tk := if eqb = true then P1 else tok3 k1 P1 ⟨.pointer none, ⟨#[47]⟩, (P1 (k1 - 1)).lo, 0, 0, 24, if m = true then 0 else 3⟩ P2
theorem infoTk : (Tryd.prog.info? 32).map (fun i => (i.zero.map (·.cells), i.size, i.bytes)) = some (some tkZ, 7, 40) := by kernel_rfl
theorem quad_ko (a b c d : Tk) (m : Bool) (k : Nat) (hk : k = kMin a b c d) (ha : a.ch = .pointer none) (hb : b.ch = .pointer none) (hc : c.ch = .pointer none) (hd : d.ch = .pointer none) (w : World) :
    Calls Tryd.prog 35 #[tkV a, tkV b, tkV c, tkV d, .bool m] w (QKo a b c d m k w) := by
  have := quad_o a b c d m ha hb hc hd w
  rw [tkV_eq ha, tkV_eq hb, tkV_eq hc, tkV_eq hd] at this
  subst hk
  exact this
theorem Room.kp {S : Nat → Prop} {w w' : World} {T N : Nat} (h : Room w T N) (hk : Kp S w w') (hs : ¬ S T) : Room w' T N := fun j hj => by
  obtain ⟨v, h1, h2⟩ := h j hj
  exact ⟨v, hk.cell h1 hs, hk.froz h1 h2 hs⟩
theorem Trk.kp {S : Nat → Prop} {w w' : World} {b : Nat} {F : Nat → Cn} {imp : Bool} (h : Trk w b F imp) (hk : Kp S w w') (hs : ¬ S b) : Trk w' b F imp := ⟨fun k q j v hj => hk.cell (h.cn k q j v hj) hs, hk.cell h.im hs, h.room.kp hk hs⟩
theorem Rul.kp {S : Nat → Prop} {w w' : World} {R n : Nat} {D : Nat → Value} {L : Nat → Int} (h : Rul w R n D L) (hk : Kp S w w') (hs : ¬ S R) : Rul w' R n D L := ⟨fun j hj => hk.cell (h.d j hj) hs, fun j hj => hk.cell (h.l j hj) hs, h.room.kp hk hs⟩
theorem join_end {w6 w7 w8 : World} {B T1 T2 P j k2 : Nat} {m : Bool} {P1 P2 : Nat → Tk} {s : Tk} {xs ys : List Value} {v1 v2 : Value} (hs : s.ch = .pointer none)
    (hx : xs.length = (j + 1) * 7) (hxc : ∀ i, i < (j + 1) * 7 → w6.cell? ⟨T1, i, none⟩ = xs[i]?) (t1 : ∀ i, i < j + 1 → TAt w6 T1 (i * 7) (P1 i))
    (hy : ys.length = k2 * 7) (hyc : ∀ i, i < k2 * 7 → w6.cell? ⟨T2, i, none⟩ = ys[i]?) (t2 : ∀ i, i < k2 → TAt w6 T2 (i * 7) (P2 i))
    (own8 : w8.ownsRow B 32 7 v2 (j + 1 + 1 + k2) (xs ++ tkL s ++ ys))
    (kp7 : Kp (fun b => (Value.slice (some ⟨T1, 0, none⟩) (j + 1) 4).ownBlock = some b) w6 w7) (new7 : ∀ k, v1.ownBlock = some k → (Value.slice (some ⟨T1, 0, none⟩) (j + 1) 4).ownBlock = some k ∨ w6.heap.size ≤ k)
    (kp8 : Kp (fun b => v1.ownBlock = some b) w7 w8) (new8 : ∀ k, v2.ownBlock = some k → v1.ownBlock = some k ∨ w7.heap.size ≤ k)
    (hP : P < T1) (hT1 : T1 < w6.heap.size) (hB : B ≤ T1) (hG : (⟨.pointer none, ⟨#[47]⟩, (P1 (j + 1 - 1)).lo, 0, 0, 24, if m = true then 0 else 3⟩ : Tk) = s) :
    ∃ T cc, v2 = .slice (some ⟨T, 0, none⟩) (cntG false (j + 1) k2) cc ∧ B ≤ T ∧ T < w8.heap.size ∧ P < T ∧ (∀ i, i < cntG false (j + 1) k2 → TAt w8 T (i * 7) (tokG false m (j + 1) P1 P2 i)) ∧ Kp (fun z => z = T1) w6 w8 := by
  obtain ⟨g, c, rfl, hg1, hg2, -, -⟩ := own_some own8 (by omega)
  have hkp : Kp (fun z => z = T1) w6 w8 := by
    refine (kp7.wide (fun b e => ?_)).trans' kp8 (fun b e hb => ?_)
    · exact (Option.some.inj e).symm
    · rcases new7 b e with q | q
      · exact (Option.some.inj q).symm
      · omega
  have hs7 := kp7.size
  refine ⟨g, c, rfl, hg1, hg2, ?_, ?_, hkp⟩
  · rcases new8 g rfl with q | q
    · rcases new7 g q with q' | q'
      · have : T1 = g := Option.some.inj q'
        omega
      · omega
    · omega
  · have := tok3_at hs hx hxc t1 hy hyc t2 own8
    unfold tokG cntG
    rw [hG]
    exact this
set_option maxRecDepth 100000 in
set_option maxHeartbeats 4000000 in
theorem comp_g (eqb : Bool) (b R n0 n c : Nat) (hn0 : n0 ≤ n) (F : Nat → Cn) (imp m : Bool) (D : Nat → Value) (L : Nat → Int) (ix : Nat → Nat) (lo len : Int) (w : World) (h : Trk w b F imp) (hR : Rul w R n D L) (hbR : b ≠ R) (hn : n ≤ 4096) (hix : ∀ i, i < 4 → ix i < n0 ∧ (F i).ix = ix i)
    (hk : ∀ i, i < 4 → ((F i).t1.kd == 0) = false) (hs : ∀ i, i < 4 → (F i).st = 0 ∧ (F i).un = ⟨#[]⟩) (hch : ∀ i, i < 4 → (F i).t1.ch = .pointer none ∧ (F i).t2.ch = .pointer none) (k1 k2 : Nat) (hk1 : k1 = kMin (F 0).t1 (F 1).t1 (F 2).t1 (F 3).t1) (hk2 : k2 = kMin (F 0).t2 (F 1).t2 (F 2).t2 (F 3).t2) (hE : lEq k1 k2 (fun i => { pick4 (F 0).t1 (F 1).t1 (F 2).t1 (F 3).t1 i with ws := wsF i k1 m }) (fun i => { pick4 (F 0).t2 (F 1).t2 (F 2).t2 (F 3).t2 i with ws := wsF i k2 m }) = eqb) :
    Calls Tryd.prog 26 #[.pointer (some ⟨b, 0, none⟩), .slice (some ⟨R, 0, none⟩) n0 c, .agg #[.int .i32 lo, .int .i32 len], .bool m] w (CompP R n (cntG eqb k1 k2) (tokG eqb m k1 (fun i => { pick4 (F 0).t1 (F 1).t1 (F 2).t1 (F 3).t1 i with ws := wsF i k1 m }) (fun i => { pick4 (F 0).t2 (F 1).t2 (F 2).t2 (F 3).t2 i with ws := wsF i k2 m })) ix D L lo len imp w) := by
  have H := Lib.hid h
  have HR := Lib.hid hR
  have HS := Lib.hid hs
  have HCH := Lib.hid hch
  have HIX := Lib.hid hix
  have hbl : b < w.heap.size := h.room.lt (by omega)
  have hRl : R < w.heap.size := hR.room.lt (by have := (hix 0 (by omega)).1; omega)
  have d0 := fun o => al (by have := h.cn 0 (by omega) 5 _ rfl; simpa using this : w.cell? ⟨b, 5, none⟩ = some (.int .u8 (F 0).t1.kd)) o
  have d1 := fun o => al (by have := h.cn 1 (by omega) 5 _ rfl; simpa using this : w.cell? ⟨b, 23, none⟩ = some (.int .u8 (F 1).t1.kd)) o
  have d2 := fun o => al (by have := h.cn 2 (by omega) 5 _ rfl; simpa using this : w.cell? ⟨b, 41, none⟩ = some (.int .u8 (F 2).t1.kd)) o
  have d3 := fun o => al (by have := h.cn 3 (by omega) 5 _ rfl; simpa using this : w.cell? ⟨b, 59, none⟩ = some (.int .u8 (F 3).t1.kd)) o
  have e0 := hk 0 (by omega)
  have e1 := hk 1 (by omega)
  have e2 := hk 2 (by omega)
  have e3 := hk 3 (by omega)
  have HbR := Lib.hid hbR
  have hch1 : ∀ i, (pick4 (F 0).t1 (F 1).t1 (F 2).t1 (F 3).t1 i).ch = .pointer none := fun i => pick_ch (hch 0 (by omega)).1 (hch 1 (by omega)).1 (hch 2 (by omega)).1 (hch 3 (by omega)).1 i
  replace hch1 := Lib.hid hch1
  have hch2 : ∀ i, (pick4 (F 0).t2 (F 1).t2 (F 2).t2 (F 3).t2 i).ch = .pointer none := fun i => pick_ch (hch 0 (by omega)).2 (hch 1 (by omega)).2 (hch 2 (by omega)).2 (hch 3 (by omega)).2 i
  replace hch2 := Lib.hid hch2
  have K11 : 1 ≤ k1 := by rw [hk1]; exact kMin_pos _ _ _ _
  have K14 : k1 ≤ 4 := by rw [hk1]; exact kMin_le _ _ _ _
  have K24 : k2 ≤ 4 := by rw [hk2]; exact kMin_le _ _ _ _
  have C351 := Lib.hid (fun w => quad_ko (F 0).t1 (F 1).t1 (F 2).t1 (F 3).t1 m k1 hk1 (hch 0 (by omega)).1 (hch 1 (by omega)).1 (hch 2 (by omega)).1 (hch 3 (by omega)).1 w)
  have C352 := Lib.hid (fun w => quad_ko (F 0).t2 (F 1).t2 (F 2).t2 (F 3).t2 m k2 hk2 (hch 0 (by omega)).2 (hch 1 (by omega)).2 (hch 2 (by omega)).2 (hch 3 (by omega)).2 w)
  have C33 := Lib.hid (fun (T1 T2 : Nat) (w : World) (h1 : ∀ i, i < k1 → TAt w T1 (i * 7) { pick4 (F 0).t1 (F 1).t1 (F 2).t1 (F 3).t1 i with ws := wsF i k1 m }) (h2 : ∀ i, i < k2 → TAt w T2 (i * 7) { pick4 (F 0).t2 (F 1).t2 (F 2).t2 (F 3).t2 i with ws := wsF i k2 m }) => (by
    have := list_c T1 T2 k1 k2 4 4 _ _ w (by omega) (by omega) h1 h2 (fun i _ => pick_ch (hch 0 (by omega)).1 (hch 1 (by omega)).1 (hch 2 (by omega)).1 (hch 3 (by omega)).1 i) (fun i _ => pick_ch (hch 0 (by omega)).2 (hch 1 (by omega)).2 (hch 2 (by omega)).2 (hch 3 (by omega)).2 i)
    rwa [hE] at this : Calls Tryd.prog 33 #[.slice (some ⟨T1, 0, none⟩) k1 4, .slice (some ⟨T2, 0, none⟩) k2 4] w (Gv (.bool eqb) w)))
  have HK1 := Lib.hid hk1
  have HK2 := Lib.hid hk2
  clear h hR hs hch hix hk hbR hE hk1 hk2
  go_enter Tryd.func26, Tryd.ntmps26
  go_upto_region 4 with fail
  refine wp_gen (fun W hW => ?_)
  have hb : Hid (Below w.heap.size w W) := Lib.hid (by rw [hW]; exact ba _ _)
  have kk0 : Hid (W.cell? ⟨w.heap.size, 0, none⟩ = some (.int .i32 lo)) := Lib.hid (by rw [hW]; simp [go_sem])
  have kk1 : Hid (W.cell? ⟨w.heap.size, 1, none⟩ = some (.int .i32 len)) := Lib.hid (by rw [hW]; simp [go_sem])
  have hPW : Hid (w.heap.size + 1 = W.heap.size) := Lib.hid (by rw [hW]; simp)
  clear hW d0 d1 d2 d3
  have C34 : Hid (∀ w, Calls Tryd.prog 34 #[.agg #[.string ⟨#[]⟩, .int .u8 0], .agg #[.string ⟨#[]⟩, .int .u8 0]] w (Gv (.bool true) w)) := Lib.hid (fun w => safe_c 0 0 ⟨#[]⟩ (.inl ⟨rfl, rfl⟩) (.inl rfl) (.inl rfl) w)
  replace H : Hid (Trk W b F imp) := Lib.hid (H.out.after hb.out)
  replace HR : Hid (Rul W R n D L) := Lib.hid (HR.out.after hb.out)
  generalize hP : w.heap.size = P at kk0 kk1 ⊢
  replace hP := Lib.hid hP
  replace hbl : b < P := by have := hP.out; omega
  replace hRl : R < P := by have := hP.out; omega
  go_loopw [65] (fun v wr => ∃ i : Nat, i ≤ 3 ∧ v = .int .i64 i ∧ Below W.heap.size W wr) (fun v _ => 3 - (intOf v).toNat)
  case atStart => exact ⟨0, by omega, rfl, Below.refl _ _⟩
  case round =>
    obtain ⟨i, hi, rfl, hB⟩ := hrel
    obtain ⟨w1, rfl⟩ : ∃ w1 : World, w1 = wr := ⟨_, rfl⟩
    replace hB := Lib.hid hB
    by_cases hlt : i < 3
    · have i0 : (0 : Int) ≤ i := by omega
      have i1 : (i : Int) < 3 := by omega
      have sg : Hid (Seg w1 b (18 + i * 18) (cnL (F (i + 1)))) := Lib.hid (((H.out.cn (i + 1) (by omega)).after hB.out).cast (by omega))
      have HN := Lib.hid (by have := Room.newN w1 zCn (n := 18) rfl 66; simpa using this : Room (w1.alloc (.cells zCn 66)) w1.heap.size 18)
      have b14 : Hid (Seg w1 b 0 (cnL (F 0))) := Lib.hid (((H.out.cn 0 (by omega)).after hB.out).cast (by omega))
      have un1 := Lib.hid (HS.out (i + 1) (by omega))
      have un0 := Lib.hid (HS.out 0 (by omega))
      go_upto_region 6 with (first | ((with_reducible refine wpList_at (o := ⟨some 68, .load 66 (.tmp 67), _, _, _, _⟩) ?_); refine wpList_load_seg (op := ⟨some 68, .load 66 (.tmp 67), _, _, _, _⟩) rfl 66 (.tmp 67) rfl b (18 + i * 18) rfl (cnL (F (i + 1))) _ Tryd.underlying66 rfl (i66 (F (i + 1))) sg.out ?_) | ((with_reducible refine wpList_at (o := ⟨none, .store 66 (.tmp 10) (.tmp 68), _, _, _, _⟩) ?_); refine wpList_store_room (op := ⟨none, .store 66 (.tmp 10) (.tmp 68), _, _, _, _⟩) rfl 66 (.tmp 10) (.tmp 68) rfl w1.heap.size 0 18 (cnL (F (i + 1))) HN.out (l18 (F (i + 1))) rfl rfl (i66 (F (i + 1))) (cnL_one (F (i + 1))) ?_; intro W2 hW2))
      have B2 : Hid (Below w1.heap.size w1 W2) := Lib.hid (by
        rw [hW2]
        exact (Only.setCells (S := fun z => z = w1.heap.size) _ rfl _ _ (Only.of (ba w1 _))).below w1.heap.size (Nat.le_refl _) (fun z e => by omega))
      have s2 : Hid (Seg W2 w1.heap.size 0 (cnL (F (i + 1)))) := Lib.hid (by rw [hW2]; exact Seg.put HN.out (l18 (F (i + 1))))
      have sb := Lib.hid (b14.out.after B2.out)
      have y14 : ∀ d os, (Sort.grow (redrawn W2 d) os).cell? ⟨w1.heap.size, 14, none⟩ = some (.string ⟨#[]⟩) := fun d os => cell_regrown (by rw [← un1.out.2]; exact s2.out 14 _ rfl) d os
      have y15 : ∀ d os, (Sort.grow (redrawn W2 d) os).cell? ⟨w1.heap.size, 15, none⟩ = some (.int .u8 0) := fun d os => cell_regrown (by rw [← un1.out.1]; exact s2.out 15 _ rfl) d os
      have z14 : ∀ d os, (Sort.grow (redrawn W2 d) os).cell? ⟨b, 14, none⟩ = some (.string ⟨#[]⟩) := fun d os => cell_regrown (by rw [← un0.out.2]; exact sb.out 14 _ rfl) d os
      have z15 : ∀ d os, (Sort.grow (redrawn W2 d) os).cell? ⟨b, 15, none⟩ = some (.int .u8 0) := fun d os => cell_regrown (by rw [← un0.out.1]; exact sb.out 15 _ rfl) d os
      clear hW2 HN sg b14 un1 un0 s2 sb
      go_upto_region 7 with (fail)
      refine drawn_tail 8 (by kernel_rfl) (by kernel_rfl) (by kernel_rfl) (fun Q hQ => ?_)
      simp only [List.take_succ_cons, List.take_zero, List.drop_succ_cons, List.drop_zero]
      repeat (quiet_step (fail))
      refine wpQuiet_nil ?_
      intro W3 hw
      have B3 : Hid (Below W.heap.size W W3) := Lib.hid (by
        obtain ⟨⟨d, os⟩, rfl⟩ := hw
        exact hB.out.trans ((B2.out.trans ((below_regrown _ d os).mono B2.out.size)).mono hB.out.size))
      clear hw y14 y15 z14 z15
      go_wp2_with (go_at_call 34; (with_reducible refine (C34.out _).mono ?_); rintro e wz ⟨rfl, hz⟩; replace hz := Lib.hid hz)
      go_roundw
      case rel => exact ⟨i + 1, by omega, by go_num, B3.out.trans (hz.out.mono B3.out.size)⟩
      case measure => simp [intOf]; omega
    · obtain rfl : i = 3 := by omega
      go_wp2
      have t1 : Hid (Trk w1 b F imp) := Lib.hid (H.out.after hB.out)
      have r1 : Hid (Rul w1 R n D L) := Lib.hid (HR.out.after hB.out)
      have b1 : Hid (Below w.heap.size w w1) := Lib.hid (hb.out.trans (hB.out.mono hb.out.size))
      have k0' : Hid (w1.cell? ⟨P, 0, none⟩ = some (.int .i32 lo)) := Lib.hid (ac hB.out kk0.out)
      have k1' : Hid (w1.cell? ⟨P, 1, none⟩ = some (.int .i32 len)) := Lib.hid (ac hB.out kk1.out)
      clear hB HS
      have y0 : ∀ d os, (Sort.grow (redrawn w1 d) os).cell? ⟨b, 0, none⟩ = some (.pointer none) := fun d os => cell_regrown (by simpa using t1.out.cn 0 (by omega) 0 _ rfl) d os
      have y1 : ∀ d os, (Sort.grow (redrawn w1 d) os).cell? ⟨b, 1, none⟩ = some (.string (F 0).t1.tx) := fun d os => cell_regrown (by simpa using t1.out.cn 0 (by omega) 1 _ rfl) d os
      have y2 : ∀ d os, (Sort.grow (redrawn w1 d) os).cell? ⟨b, 2, none⟩ = some (.int .i32 (F 0).t1.lo) := fun d os => cell_regrown (by simpa using t1.out.cn 0 (by omega) 2 _ rfl) d os
      have y3 : ∀ d os, (Sort.grow (redrawn w1 d) os).cell? ⟨b, 3, none⟩ = some (.int .u32 (F 0).t1.pl) := fun d os => cell_regrown (by simpa using t1.out.cn 0 (by omega) 3 _ rfl) d os
      have y4 : ∀ d os, (Sort.grow (redrawn w1 d) os).cell? ⟨b, 4, none⟩ = some (.int .u16 (F 0).t1.uo) := fun d os => cell_regrown (by simpa using t1.out.cn 0 (by omega) 4 _ rfl) d os
      have y5 : ∀ d os, (Sort.grow (redrawn w1 d) os).cell? ⟨b, 5, none⟩ = some (.int .u8 (F 0).t1.kd) := fun d os => cell_regrown (by simpa using t1.out.cn 0 (by omega) 5 _ rfl) d os
      have y6 : ∀ d os, (Sort.grow (redrawn w1 d) os).cell? ⟨b, 6, none⟩ = some (.int .u8 (F 0).t1.ws) := fun d os => cell_regrown (by simpa using t1.out.cn 0 (by omega) 6 _ rfl) d os
      have y18 : ∀ d os, (Sort.grow (redrawn w1 d) os).cell? ⟨b, 18, none⟩ = some (.pointer none) := fun d os => cell_regrown (by simpa using t1.out.cn 1 (by omega) 0 _ rfl) d os
      have y19 : ∀ d os, (Sort.grow (redrawn w1 d) os).cell? ⟨b, 19, none⟩ = some (.string (F 1).t1.tx) := fun d os => cell_regrown (by simpa using t1.out.cn 1 (by omega) 1 _ rfl) d os
      have y20 : ∀ d os, (Sort.grow (redrawn w1 d) os).cell? ⟨b, 20, none⟩ = some (.int .i32 (F 1).t1.lo) := fun d os => cell_regrown (by simpa using t1.out.cn 1 (by omega) 2 _ rfl) d os
      have y21 : ∀ d os, (Sort.grow (redrawn w1 d) os).cell? ⟨b, 21, none⟩ = some (.int .u32 (F 1).t1.pl) := fun d os => cell_regrown (by simpa using t1.out.cn 1 (by omega) 3 _ rfl) d os
      have y22 : ∀ d os, (Sort.grow (redrawn w1 d) os).cell? ⟨b, 22, none⟩ = some (.int .u16 (F 1).t1.uo) := fun d os => cell_regrown (by simpa using t1.out.cn 1 (by omega) 4 _ rfl) d os
      have y23 : ∀ d os, (Sort.grow (redrawn w1 d) os).cell? ⟨b, 23, none⟩ = some (.int .u8 (F 1).t1.kd) := fun d os => cell_regrown (by simpa using t1.out.cn 1 (by omega) 5 _ rfl) d os
      have y24 : ∀ d os, (Sort.grow (redrawn w1 d) os).cell? ⟨b, 24, none⟩ = some (.int .u8 (F 1).t1.ws) := fun d os => cell_regrown (by simpa using t1.out.cn 1 (by omega) 6 _ rfl) d os
      have y36 : ∀ d os, (Sort.grow (redrawn w1 d) os).cell? ⟨b, 36, none⟩ = some (.pointer none) := fun d os => cell_regrown (by simpa using t1.out.cn 2 (by omega) 0 _ rfl) d os
      have y37 : ∀ d os, (Sort.grow (redrawn w1 d) os).cell? ⟨b, 37, none⟩ = some (.string (F 2).t1.tx) := fun d os => cell_regrown (by simpa using t1.out.cn 2 (by omega) 1 _ rfl) d os
      have y38 : ∀ d os, (Sort.grow (redrawn w1 d) os).cell? ⟨b, 38, none⟩ = some (.int .i32 (F 2).t1.lo) := fun d os => cell_regrown (by simpa using t1.out.cn 2 (by omega) 2 _ rfl) d os
      have y39 : ∀ d os, (Sort.grow (redrawn w1 d) os).cell? ⟨b, 39, none⟩ = some (.int .u32 (F 2).t1.pl) := fun d os => cell_regrown (by simpa using t1.out.cn 2 (by omega) 3 _ rfl) d os
      have y40 : ∀ d os, (Sort.grow (redrawn w1 d) os).cell? ⟨b, 40, none⟩ = some (.int .u16 (F 2).t1.uo) := fun d os => cell_regrown (by simpa using t1.out.cn 2 (by omega) 4 _ rfl) d os
      have y41 : ∀ d os, (Sort.grow (redrawn w1 d) os).cell? ⟨b, 41, none⟩ = some (.int .u8 (F 2).t1.kd) := fun d os => cell_regrown (by simpa using t1.out.cn 2 (by omega) 5 _ rfl) d os
      have y42 : ∀ d os, (Sort.grow (redrawn w1 d) os).cell? ⟨b, 42, none⟩ = some (.int .u8 (F 2).t1.ws) := fun d os => cell_regrown (by simpa using t1.out.cn 2 (by omega) 6 _ rfl) d os
      have y54 : ∀ d os, (Sort.grow (redrawn w1 d) os).cell? ⟨b, 54, none⟩ = some (.pointer none) := fun d os => cell_regrown (by simpa using t1.out.cn 3 (by omega) 0 _ rfl) d os
      have y55 : ∀ d os, (Sort.grow (redrawn w1 d) os).cell? ⟨b, 55, none⟩ = some (.string (F 3).t1.tx) := fun d os => cell_regrown (by simpa using t1.out.cn 3 (by omega) 1 _ rfl) d os
      have y56 : ∀ d os, (Sort.grow (redrawn w1 d) os).cell? ⟨b, 56, none⟩ = some (.int .i32 (F 3).t1.lo) := fun d os => cell_regrown (by simpa using t1.out.cn 3 (by omega) 2 _ rfl) d os
      have y57 : ∀ d os, (Sort.grow (redrawn w1 d) os).cell? ⟨b, 57, none⟩ = some (.int .u32 (F 3).t1.pl) := fun d os => cell_regrown (by simpa using t1.out.cn 3 (by omega) 3 _ rfl) d os
      have y58 : ∀ d os, (Sort.grow (redrawn w1 d) os).cell? ⟨b, 58, none⟩ = some (.int .u16 (F 3).t1.uo) := fun d os => cell_regrown (by simpa using t1.out.cn 3 (by omega) 4 _ rfl) d os
      have y59 : ∀ d os, (Sort.grow (redrawn w1 d) os).cell? ⟨b, 59, none⟩ = some (.int .u8 (F 3).t1.kd) := fun d os => cell_regrown (by simpa using t1.out.cn 3 (by omega) 5 _ rfl) d os
      have y60 : ∀ d os, (Sort.grow (redrawn w1 d) os).cell? ⟨b, 60, none⟩ = some (.int .u8 (F 3).t1.ws) := fun d os => cell_regrown (by simpa using t1.out.cn 3 (by omega) 6 _ rfl) d os
      refine drawn_tail 25 (by kernel_rfl) (by kernel_rfl) (by kernel_rfl) (fun Q hQ => ?_)
      simp only [List.take_succ_cons, List.take_zero, List.drop_succ_cons, List.drop_zero]
      repeat (quiet_step (fail))
      refine wpQuiet_nil ?_
      intro w2 hw
      have w2b : Hid (Below w1.heap.size w1 w2) := Lib.hid (by
        obtain ⟨⟨d, os⟩, rfl⟩ := hw
        exact below_regrown _ d os)
      clear hw y0 y1 y2 y3 y4 y5 y6 y18 y19 y20 y21 y22 y23 y24 y36 y37 y38 y39 y40 y41 y42 y54 y55 y56 y57 y58 y59 y60
      go_wp2_with (go_at_call 35; (with_reducible refine (C351.out _).mono ?_); rintro e w3 ⟨T1, rfl, q1⟩; replace q1 := Lib.hid q1)
      have w3b : Hid (Below w1.heap.size w1 w3) := Lib.hid (w2b.out.trans (q1.out.2.2.2.2.mono w2b.out.size))
      have t3 : Hid (Trk w3 b F imp) := Lib.hid (t1.out.after w3b.out)
      have y7 : ∀ d os, (Sort.grow (redrawn w3 d) os).cell? ⟨b, 7, none⟩ = some (.pointer none) := fun d os => cell_regrown (by simpa using t3.out.cn 0 (by omega) 7 _ rfl) d os
      have y8 : ∀ d os, (Sort.grow (redrawn w3 d) os).cell? ⟨b, 8, none⟩ = some (.string (F 0).t2.tx) := fun d os => cell_regrown (by simpa using t3.out.cn 0 (by omega) 8 _ rfl) d os
      have y9 : ∀ d os, (Sort.grow (redrawn w3 d) os).cell? ⟨b, 9, none⟩ = some (.int .i32 (F 0).t2.lo) := fun d os => cell_regrown (by simpa using t3.out.cn 0 (by omega) 9 _ rfl) d os
      have y10 : ∀ d os, (Sort.grow (redrawn w3 d) os).cell? ⟨b, 10, none⟩ = some (.int .u32 (F 0).t2.pl) := fun d os => cell_regrown (by simpa using t3.out.cn 0 (by omega) 10 _ rfl) d os
      have y11 : ∀ d os, (Sort.grow (redrawn w3 d) os).cell? ⟨b, 11, none⟩ = some (.int .u16 (F 0).t2.uo) := fun d os => cell_regrown (by simpa using t3.out.cn 0 (by omega) 11 _ rfl) d os
      have y12 : ∀ d os, (Sort.grow (redrawn w3 d) os).cell? ⟨b, 12, none⟩ = some (.int .u8 (F 0).t2.kd) := fun d os => cell_regrown (by simpa using t3.out.cn 0 (by omega) 12 _ rfl) d os
      have y13 : ∀ d os, (Sort.grow (redrawn w3 d) os).cell? ⟨b, 13, none⟩ = some (.int .u8 (F 0).t2.ws) := fun d os => cell_regrown (by simpa using t3.out.cn 0 (by omega) 13 _ rfl) d os
      have y25 : ∀ d os, (Sort.grow (redrawn w3 d) os).cell? ⟨b, 25, none⟩ = some (.pointer none) := fun d os => cell_regrown (by simpa using t3.out.cn 1 (by omega) 7 _ rfl) d os
      have y26 : ∀ d os, (Sort.grow (redrawn w3 d) os).cell? ⟨b, 26, none⟩ = some (.string (F 1).t2.tx) := fun d os => cell_regrown (by simpa using t3.out.cn 1 (by omega) 8 _ rfl) d os
      have y27 : ∀ d os, (Sort.grow (redrawn w3 d) os).cell? ⟨b, 27, none⟩ = some (.int .i32 (F 1).t2.lo) := fun d os => cell_regrown (by simpa using t3.out.cn 1 (by omega) 9 _ rfl) d os
      have y28 : ∀ d os, (Sort.grow (redrawn w3 d) os).cell? ⟨b, 28, none⟩ = some (.int .u32 (F 1).t2.pl) := fun d os => cell_regrown (by simpa using t3.out.cn 1 (by omega) 10 _ rfl) d os
      have y29 : ∀ d os, (Sort.grow (redrawn w3 d) os).cell? ⟨b, 29, none⟩ = some (.int .u16 (F 1).t2.uo) := fun d os => cell_regrown (by simpa using t3.out.cn 1 (by omega) 11 _ rfl) d os
      have y30 : ∀ d os, (Sort.grow (redrawn w3 d) os).cell? ⟨b, 30, none⟩ = some (.int .u8 (F 1).t2.kd) := fun d os => cell_regrown (by simpa using t3.out.cn 1 (by omega) 12 _ rfl) d os
      have y31 : ∀ d os, (Sort.grow (redrawn w3 d) os).cell? ⟨b, 31, none⟩ = some (.int .u8 (F 1).t2.ws) := fun d os => cell_regrown (by simpa using t3.out.cn 1 (by omega) 13 _ rfl) d os
      have y43 : ∀ d os, (Sort.grow (redrawn w3 d) os).cell? ⟨b, 43, none⟩ = some (.pointer none) := fun d os => cell_regrown (by simpa using t3.out.cn 2 (by omega) 7 _ rfl) d os
      have y44 : ∀ d os, (Sort.grow (redrawn w3 d) os).cell? ⟨b, 44, none⟩ = some (.string (F 2).t2.tx) := fun d os => cell_regrown (by simpa using t3.out.cn 2 (by omega) 8 _ rfl) d os
      have y45 : ∀ d os, (Sort.grow (redrawn w3 d) os).cell? ⟨b, 45, none⟩ = some (.int .i32 (F 2).t2.lo) := fun d os => cell_regrown (by simpa using t3.out.cn 2 (by omega) 9 _ rfl) d os
      have y46 : ∀ d os, (Sort.grow (redrawn w3 d) os).cell? ⟨b, 46, none⟩ = some (.int .u32 (F 2).t2.pl) := fun d os => cell_regrown (by simpa using t3.out.cn 2 (by omega) 10 _ rfl) d os
      have y47 : ∀ d os, (Sort.grow (redrawn w3 d) os).cell? ⟨b, 47, none⟩ = some (.int .u16 (F 2).t2.uo) := fun d os => cell_regrown (by simpa using t3.out.cn 2 (by omega) 11 _ rfl) d os
      have y48 : ∀ d os, (Sort.grow (redrawn w3 d) os).cell? ⟨b, 48, none⟩ = some (.int .u8 (F 2).t2.kd) := fun d os => cell_regrown (by simpa using t3.out.cn 2 (by omega) 12 _ rfl) d os
      have y49 : ∀ d os, (Sort.grow (redrawn w3 d) os).cell? ⟨b, 49, none⟩ = some (.int .u8 (F 2).t2.ws) := fun d os => cell_regrown (by simpa using t3.out.cn 2 (by omega) 13 _ rfl) d os
      have y61 : ∀ d os, (Sort.grow (redrawn w3 d) os).cell? ⟨b, 61, none⟩ = some (.pointer none) := fun d os => cell_regrown (by simpa using t3.out.cn 3 (by omega) 7 _ rfl) d os
      have y62 : ∀ d os, (Sort.grow (redrawn w3 d) os).cell? ⟨b, 62, none⟩ = some (.string (F 3).t2.tx) := fun d os => cell_regrown (by simpa using t3.out.cn 3 (by omega) 8 _ rfl) d os
      have y63 : ∀ d os, (Sort.grow (redrawn w3 d) os).cell? ⟨b, 63, none⟩ = some (.int .i32 (F 3).t2.lo) := fun d os => cell_regrown (by simpa using t3.out.cn 3 (by omega) 9 _ rfl) d os
      have y64 : ∀ d os, (Sort.grow (redrawn w3 d) os).cell? ⟨b, 64, none⟩ = some (.int .u32 (F 3).t2.pl) := fun d os => cell_regrown (by simpa using t3.out.cn 3 (by omega) 10 _ rfl) d os
      have y65 : ∀ d os, (Sort.grow (redrawn w3 d) os).cell? ⟨b, 65, none⟩ = some (.int .u16 (F 3).t2.uo) := fun d os => cell_regrown (by simpa using t3.out.cn 3 (by omega) 11 _ rfl) d os
      have y66 : ∀ d os, (Sort.grow (redrawn w3 d) os).cell? ⟨b, 66, none⟩ = some (.int .u8 (F 3).t2.kd) := fun d os => cell_regrown (by simpa using t3.out.cn 3 (by omega) 12 _ rfl) d os
      have y67 : ∀ d os, (Sort.grow (redrawn w3 d) os).cell? ⟨b, 67, none⟩ = some (.int .u8 (F 3).t2.ws) := fun d os => cell_regrown (by simpa using t3.out.cn 3 (by omega) 13 _ rfl) d os
      refine drawn_tail 25 (by kernel_rfl) (by kernel_rfl) (by kernel_rfl) (fun Q hQ => ?_)
      simp only [List.take_succ_cons, List.take_zero, List.drop_succ_cons, List.drop_zero]
      repeat (quiet_step (fail))
      refine wpQuiet_nil ?_
      intro w4 hw
      have w4b : Hid (Below w3.heap.size w3 w4) := Lib.hid (by
        obtain ⟨⟨d, os⟩, rfl⟩ := hw
        exact below_regrown _ d os)
      clear hw y7 y8 y9 y10 y11 y12 y13 y25 y26 y27 y28 y29 y30 y31 y43 y44 y45 y46 y47 y48 y49 y61 y62 y63 y64 y65 y66 y67
      go_upto_if 135 with (first | (go_at_call 35; (with_reducible refine (C352.out _).mono ?_); rintro e w5 ⟨T2, rfl, q2⟩; replace q2 := Lib.hid q2; have w5b : Hid (Below w3.heap.size w3 w5) := Lib.hid (w4b.out.trans (q2.out.2.2.2.2.mono w4b.out.size)); have g1 := Lib.hid (fun i hi => (q1.out.2.2.1 i hi).after w5b.out); have g2 := Lib.hid q2.out.2.2.1) | (go_at_call 33; (with_reducible refine (C33.out T1 T2 _ g1.out g2.out).mono ?_); rintro e w6 ⟨rfl, w6b⟩; replace w6b := Lib.hid w6b))
      have b16 : Hid (Below w1.heap.size w1 w6) := Lib.hid (w3b.out.trans ((w5b.out.trans (w6b.out.mono w5b.out.size)).mono w3b.out.size))
      have bw6 : Hid (Below w.heap.size w w6) := Lib.hid (b1.out.trans (b16.out.mono b1.out.size))
      have R1 : Hid (RT w6 T1 k1 (fun i => { pick4 (F 0).t1 (F 1).t1 (F 2).t1 (F 3).t1 i with ws := wsF i k1 m })) := Lib.hid ⟨(q1.out.2.2.2.1.after w5b.out).after w6b.out, fun i hi => (g1.out i hi).after w6b.out⟩
      have R2 : Hid (RT w6 T2 k2 (fun i => { pick4 (F 0).t2 (F 1).t2 (F 2).t2 (F 3).t2 i with ws := wsF i k2 m })) := Lib.hid ⟨q2.out.2.2.2.1.after w6b.out, fun i hi => (g2.out i hi).after w6b.out⟩
      have hT1 : w.heap.size ≤ T1 := Nat.le_trans (Nat.le_trans b1.out.size w2b.out.size) q1.out.1
      have hT2 : T1 < T2 := Nat.lt_of_lt_of_le q1.out.2.1 (Nat.le_trans w4b.out.size q2.out.1)
      have hT1M : T1 < w6.heap.size := Nat.lt_of_lt_of_le q1.out.2.1 (Nat.le_trans w5b.out.size w6b.out.size)
      have t6o : Hid (Trk w6 b F imp) := Lib.hid (t1.out.after b16.out)
      have r6o : Hid (Rul w6 R n D L) := Lib.hid (r1.out.after b16.out)
      have lo6 : Hid (w6.cell? ⟨P, 0, none⟩ = some (.int .i32 lo)) := Lib.hid (ac b16.out k0'.out)
      have len6 : Hid (w6.cell? ⟨P, 1, none⟩ = some (.int .i32 len)) := Lib.hid (ac b16.out k1'.out)
      have hPT : P < T1 := by
        have h1 := block_lt_of_cell k0'.out
        have h2 := w2b.out.size
        have h3 := q1.out.1
        dsimp only at h1
        omega
      clear t1 r1 k0' k1' w2b q1 w3b t3 w4b w5b q2 w6b b16 kk0 kk1 H HR g1 g2 b1
      go_cut [11] (fun v wx => ∃ T cc, v = .slice (some ⟨T, 0, none⟩) (cntG eqb k1 k2) cc ∧ w.heap.size ≤ T ∧ T < wx.heap.size ∧ P < T ∧ (∀ i, i < cntG eqb k1 k2 → TAt wx T (i * 7) (tokG eqb m k1 (fun i => { pick4 (F 0).t1 (F 1).t1 (F 2).t1 (F 3).t1 i with ws := wsF i k1 m }) (fun i => { pick4 (F 0).t2 (F 1).t2 (F 2).t2 (F 3).t2 i with ws := wsF i k2 m }) i)) ∧ Kp (fun z => z = T1) w6 wx)
      case first =>
        cases eqb
        · obtain ⟨xs, hx, hown, hxc, -⟩ := R1.out.ro.own K14 w.heap.size hT1
          obtain ⟨ys, hy, -, hyc, hy1⟩ := R2.out.ro.own K24 w.heap.size (by omega)
          obtain ⟨j, rfl⟩ : ∃ j, k1 = j + 1 := ⟨k1 - 1, by omega⟩
          have dl : w6.cell? ⟨T1, j * 7 + 2, none⟩ = some (.int .i32 (pick4 (F 0).t1 (F 1).t1 (F 2).t1 (F 3).t1 j).lo) := (R1.out.tk j (by omega)).c2
          replace hx := Lib.hid hx
          replace hown := Lib.hid hown
          replace hxc := Lib.hid hxc
          replace hy := Lib.hid hy
          replace hyc := Lib.hid hyc
          replace hy1 := Lib.hid hy1
          obtain ⟨lj, hlj⟩ : ∃ l, l = (pick4 (F 0).t1 (F 1).t1 (F 2).t1 (F 3).t1 j).lo := ⟨_, rfl⟩
          rw [← hlj] at dl
          replace hlj := Lib.hid hlj
          have hsz : T2 < w6.heap.size := R2.out.ro.lt
          have hT12 : Hid (¬ (Value.slice (some ⟨T1, 0, none⟩) (j + 1) 4).ownBlock = some T2) := Lib.hid (fun e => absurd (Option.some.inj e) (by show ¬ T1 = T2; omega))
          have hszw : w.heap.size ≤ w6.heap.size := bw6.out.size
          cases m
          · go_wp2_with (first | ((with_reducible refine wpList_at (o := ⟨some 149, _, _, _, _, _⟩) ?_); (refine app1n (w := w6) (.tmp 138) (.tmp 148) 23 32 w.heap.size 7 40 tkZ #[.pointer none, .string ⟨#[47]⟩, .int .i32 lj, .int .u32 0, .int .u16 0, .int .u8 24, .int .u8 3] _ (j + 1) xs rfl rfl rfl rfl rfl Tryd.underlying23 infoTk rfl (by omega) hown.out rfl (by simp [Value.oneCell']) (by omega) (by omega) hszw ?_; intro v1 w7 own7 kp7 new7); replace own7 := Lib.hid own7; replace kp7 := Lib.hid kp7; replace new7 := Lib.hid new7) | ((with_reducible refine wpList_at (o := ⟨some 152, _, _, _, _, _⟩) ?_); go_loud (refine appm (w := w7) (.tmp 150) (.tmp 151) 23 32 w.heap.size 7 40 tkZ v1 (j + 1 + 1) _ rfl rfl rfl ⟨T2, 0, none⟩ k2 4 ys rfl hy.out (src_kp hyc.out hy.out kp7.out hT12.out) (cells_one hy1.out rfl (fun i hi => (R2.out.tk i hi).seg (hch2.out i))) Tryd.underlying23 infoTk rfl (by omega) own7.out (by omega) (by omega) (by omega) (Nat.le_trans hszw kp7.out.size) ?_; intro v2 w8 own8 kp8 new8); replace own8 := Lib.hid own8; replace kp8 := Lib.hid kp8; replace new8 := Lib.hid new8))
            go_meet
            exact join_end (P := P) (s := ⟨.pointer none, ⟨#[47]⟩, lj, 0, 0, 24, 3⟩) rfl hx.out hxc.out R1.out.tk hy.out hyc.out R2.out.tk own8.out kp7.out new7.out kp8.out new8.out hPT hT1M hT1 (by rw [hlj.out]; rfl)
          · go_wp2_with (first | ((with_reducible refine wpList_at (o := ⟨some 149, _, _, _, _, _⟩) ?_); (refine app1n (w := w6) (.tmp 138) (.tmp 148) 23 32 w.heap.size 7 40 tkZ #[.pointer none, .string ⟨#[47]⟩, .int .i32 lj, .int .u32 0, .int .u16 0, .int .u8 24, .int .u8 0] _ (j + 1) xs rfl rfl rfl rfl rfl Tryd.underlying23 infoTk rfl (by omega) hown.out rfl (by simp [Value.oneCell']) (by omega) (by omega) hszw ?_; intro v1 w7 own7 kp7 new7); replace own7 := Lib.hid own7; replace kp7 := Lib.hid kp7; replace new7 := Lib.hid new7) | ((with_reducible refine wpList_at (o := ⟨some 152, _, _, _, _, _⟩) ?_); go_loud (refine appm (w := w7) (.tmp 150) (.tmp 151) 23 32 w.heap.size 7 40 tkZ v1 (j + 1 + 1) _ rfl rfl rfl ⟨T2, 0, none⟩ k2 4 ys rfl hy.out (src_kp hyc.out hy.out kp7.out hT12.out) (cells_one hy1.out rfl (fun i hi => (R2.out.tk i hi).seg (hch2.out i))) Tryd.underlying23 infoTk rfl (by omega) own7.out (by omega) (by omega) (by omega) (Nat.le_trans hszw kp7.out.size) ?_; intro v2 w8 own8 kp8 new8); replace own8 := Lib.hid own8; replace kp8 := Lib.hid kp8; replace new8 := Lib.hid new8))
            go_meet
            exact join_end (P := P) (s := ⟨.pointer none, ⟨#[47]⟩, lj, 0, 0, 24, 0⟩) rfl hx.out hxc.out R1.out.tk hy.out hyc.out R2.out.tk own8.out kp7.out new7.out kp8.out new8.out hPT hT1M hT1 (by rw [hlj.out]; rfl)
        · go_wp2
          go_meet
          exact ⟨T1, 4, rfl, hT1, hT1M, hPT, fun i hi => R1.out.tk i hi, Kp.refl _⟩
      case rest =>
        obtain ⟨T, cc, rfl, hT, hTW, hPT2, hq, hkp⟩ := hcut
        clear R1 R2 hch1 hch2 C33 C34 C351 C352
        obtain ⟨w7, rfl⟩ : ∃ w7 : World, w7 = wc := ⟨_, rfl⟩
        replace hq := Lib.hid hq
        replace hkp := Lib.hid hkp
        have hszz := hkp.out.size
        have t7c : Hid (Trk w7 b F imp) := Lib.hid (t6o.out.kp hkp.out (by show ¬ b = T1; omega))
        have t6 := Lib.hid (fun o => t7c.out.seg.after (ba w7 o))
        go_wp2_with (first | ((with_reducible refine wpList_at (o := ⟨some 156, .load 67 (.tmp 155), _, _, _, _⟩) ?_); refine wpList_load_seg (op := ⟨some 156, .load 67 (.tmp 155), _, _, _, _⟩) rfl 67 (.tmp 155) rfl b 0 rfl (trk4 F) _ Tryd.underlying67 rfl (i67 F) (t6.out _) ?_))
        refine wp_gen (fun W7 hW7 => ?_)
        have b7 : Hid (Below w7.heap.size w7 W7) := Lib.hid (by rw [hW7]; exact ba _ _)
        have m7 : Hid (W7.cell? ⟨w7.heap.size, 0, none⟩ = some (.int .i32 0)) := Lib.hid (by rw [hW7]; simp [go_sem])
        have mr7 : Hid (Room W7 w7.heap.size 1) := Lib.hid (by rw [hW7]; exact Room.newN _ _ rfl _)
        clear hW7 t6
        have t7 : Hid (Trk W7 b F imp) := Lib.hid (t7c.out.after b7.out)
        have r7 : Hid (Rul W7 R n D L) := Lib.hid ((r6o.out.kp hkp.out (by show ¬ R = T1; omega)).after b7.out)
        have q7 : Hid (∀ i, i < cntG eqb k1 k2 → TAt W7 T (i * 7) (tokG eqb m k1 (fun i => { pick4 (F 0).t1 (F 1).t1 (F 2).t1 (F 3).t1 i with ws := wsF i k1 m }) (fun i => { pick4 (F 0).t2 (F 1).t2 (F 2).t2 (F 3).t2 i with ws := wsF i k2 m }) i)) := Lib.hid (fun i hi => (hq.out i hi).after b7.out)
        have lo7 : Hid (W7.cell? ⟨P, 0, none⟩ = some (.int .i32 lo)) := Lib.hid (ac b7.out (hkp.out.cell lo6.out (by show ¬ P = T1; omega)))
        have len7 : Hid (W7.cell? ⟨P, 1, none⟩ = some (.int .i32 len)) := Lib.hid (ac b7.out (hkp.out.cell len6.out (by show ¬ P = T1; omega)))
        have bkp : Below w.heap.size w6 w7 := hkp.out.below bw6.out.size (fun z e => by rw [e]; exact hT1)
        have bw7 : Hid (Below w.heap.size w W7) := Lib.hid ((bw6.out.trans bkp).trans (b7.out.mono (Nat.le_trans bw6.out.size hszz)))
        have hPM : P < w7.heap.size := by omega
        have hwM0 : w.heap.size ≤ w7.heap.size := Nat.le_trans bw6.out.size hszz
        clear hT1 bkp
        have hT1 : w.heap.size ≤ T := hT
        clear t6o r6o lo6 len6 hq hkp bw6 t7c hT hszz
        generalize hM : w7.heap.size = M at *
        have hwM := Lib.hid hwM0
        clear hwM0
        replace hM := Lib.hid hM
        replace hT1 := Lib.hid hT1
        have hRM : R < M := by omega
        have hbM : b < M := by omega
        have hMW : M < W7.heap.size := mr7.out.lt (by omega)
        go_loopw [157] (fun v wr => ∃ i : Nat, i ≤ 4 ∧ v = .int .i64 i ∧ LP W7 R n M ix D L i wr) (fun v _ => 4 - (intOf v).toNat)
        case atStart => exact ⟨0, by omega, rfl, Only.refl _, r7.out, m7.out, mr7.out⟩
        case round =>
          obtain ⟨i, hi, rfl, hL⟩ := hrel
          obtain ⟨v1, rfl⟩ : ∃ v1 : World, v1 = wr := ⟨_, rfl⟩
          replace hL := Lib.hid hL
          have hMv : M < v1.heap.size := Nat.lt_of_lt_of_le hMW hL.out.only.size
          rcases (by omega : i = 0 ∨ i = 1 ∨ i = 2 ∨ i = 3 ∨ i = 4) with rfl | rfl | rfl | rfl | rfl
          · have X := ix67_0 F
            have hx := HIX.out 0 (by omega)
            have hx0 := hx.1
            have hxn : ix 0 < n := by omega
            have HX2 := Lib.hid hx.2
            clear hx
            have x0 : (0 : Int) ≤ (ix 0 : Nat) := by omega
            have x1 : ((ix 0 : Nat) : Int) < n0 := by omega
            have HN := Lib.hid (by have := Room.newN v1 zCn (n := 18) rfl 66; simpa using this : Room (v1.alloc (.cells zCn 66)) v1.heap.size 18)
            go_upto_region 20 with ((with_reducible refine wpList_at (o := ⟨none, .store 66 (.tmp 16) (.tmp 160), _, _, _, _⟩) ?_); refine wpList_store_room (op := ⟨none, .store 66 (.tmp 16) (.tmp 160), _, _, _, _⟩) rfl 66 (.tmp 16) (.tmp 160) rfl v1.heap.size 0 18 (cnL (F 0)) HN.out (l18 (F 0)) rfl rfl (i66 (F 0)) (cnL_one (F 0)) ?_; intro V2 hV2)
            have B2 : Hid (Below v1.heap.size v1 V2) := Lib.hid (by
              rw [hV2]
              exact (Only.setCells (S := fun z => z = v1.heap.size) _ rfl _ _ (Only.of (ba v1 _))).below v1.heap.size (Nat.le_refl _) (fun z e => by omega))
            have hlt2 : v1.heap.size < V2.heap.size := by rw [hV2, setCells_size]; simp
            have s16 : Hid (V2.cell? ⟨v1.heap.size, 16, none⟩ = some (.int .u32 (ix 0))) := Lib.hid (by
              have : Seg V2 v1.heap.size 0 (cnL (F 0)) := by rw [hV2]; exact Seg.put HN.out (l18 (F 0))
              rw [← HX2.out]; exact this 16 _ rfl)
            clear hV2 HN X HX2
            generalize hP6 : v1.heap.size = P6 at s16 hlt2 ⊢
            replace hP6 := Lib.hid hP6
            have c16 := s16.out
            have cl : V2.cell? ⟨R, ix 0 * 2 + 1, none⟩ = some (.int .i32 (lF ix L 0)) := ac B2.out (hL.out.rul.l (ix 0) hxn)
            go_upto_region 21 with fail
            refine wp_gen (fun V3 hV3 => ?_)
            have B3 : Hid (Below V2.heap.size V2 V3) := Lib.hid (by rw [hV3]; exact ba _ _)
            have s17 : V3.cell? ⟨V2.heap.size, 0, none⟩ = some (.int .i32 (lF ix L 0)) := by rw [hV3]; simp [go_sem]
            have s16' : V3.cell? ⟨P6, 16, none⟩ = some (.int .u32 (ix 0)) := ac B3.out s16.out
            have hlt3 : V2.heap.size < V3.heap.size := by rw [hV3]; simp
            clear hV3 c16 cl
            have B13 : Hid (Below v1.heap.size v1 V3) := Lib.hid (B2.out.trans (B3.out.mono B2.out.size))
            generalize hP7 : V2.heap.size = P7 at s17 hlt2 hlt3 ⊢
            replace hP7 := Lib.hid hP7
            have HK := Lib.hid (fun hc V' => LP.keep (V' := V') hL.out B13.out hxn (by omega) hc)
            have HT := Lib.hid (fun hc V' => LP.take (V' := V') hL.out B13.out hxn (by omega) hc)
            have hMP : M < P6 := by have := hP6.out; omega
            have mc := ac B13.out hL.out.mc
            have mf : V3.frozen? ⟨M, 0, none⟩ = false := by obtain ⟨_, -, h⟩ := hL.out.mr.after B13.out 0 (by omega); exact h
            obtain ⟨g0, e0, f0⟩ := (hL.out.rul.after B13.out).room (ix 0 * 2) (by omega)
            obtain ⟨g1, e1, f1⟩ := (hL.out.rul.after B13.out).room (ix 0 * 2 + 1) (by omega)
            have hcm := Lib.hid (Or.inl rfl : (0 : Nat) = 0 ∨ lF ix L 0 < mnF ix L 0)
            go_upto_region 23 with fail
            refine wp_gen (fun V4 hV4 => ?_)
            replace hV4 := Lib.hid hV4
            have O4 : Hid (Only (fun z => z = M) V3 V4) := Lib.hid (by rw [hV4.out]; exact (Only.refl _).set _ _ rfl)
            replace s16' := O4.out.keep s16' (by show ¬ P6 = M; omega)
            replace e0 := O4.out.keep e0 (by show ¬ R = M; omega)
            replace e1 := O4.out.keep e1 (by show ¬ R = M; omega)
            replace f0 : V4.frozen? ⟨R, ix 0 * 2, none⟩ = false := by rw [hV4.out, fz]; exact f0
            replace f1 : V4.frozen? ⟨R, ix 0 * 2 + 1, none⟩ = false := by rw [hV4.out, fz]; exact f1
            clear mc mf s17
            go_wp2
            go_roundw
            case rel => exact ⟨1, by omega, by go_num, HT.out hcm.out _ (by rw [hV4.out])⟩
            case measure => simp [intOf]
          · have X := ix67_1 F
            have hx := HIX.out 1 (by omega)
            have hx0 := hx.1
            have hxn : ix 1 < n := by omega
            have HX2 := Lib.hid hx.2
            clear hx
            have x0 : (0 : Int) ≤ (ix 1 : Nat) := by omega
            have x1 : ((ix 1 : Nat) : Int) < n0 := by omega
            have HN := Lib.hid (by have := Room.newN v1 zCn (n := 18) rfl 66; simpa using this : Room (v1.alloc (.cells zCn 66)) v1.heap.size 18)
            go_upto_region 20 with ((with_reducible refine wpList_at (o := ⟨none, .store 66 (.tmp 16) (.tmp 160), _, _, _, _⟩) ?_); refine wpList_store_room (op := ⟨none, .store 66 (.tmp 16) (.tmp 160), _, _, _, _⟩) rfl 66 (.tmp 16) (.tmp 160) rfl v1.heap.size 0 18 (cnL (F 1)) HN.out (l18 (F 1)) rfl rfl (i66 (F 1)) (cnL_one (F 1)) ?_; intro V2 hV2)
            have B2 : Hid (Below v1.heap.size v1 V2) := Lib.hid (by
              rw [hV2]
              exact (Only.setCells (S := fun z => z = v1.heap.size) _ rfl _ _ (Only.of (ba v1 _))).below v1.heap.size (Nat.le_refl _) (fun z e => by omega))
            have hlt2 : v1.heap.size < V2.heap.size := by rw [hV2, setCells_size]; simp
            have s16 : Hid (V2.cell? ⟨v1.heap.size, 16, none⟩ = some (.int .u32 (ix 1))) := Lib.hid (by
              have : Seg V2 v1.heap.size 0 (cnL (F 1)) := by rw [hV2]; exact Seg.put HN.out (l18 (F 1))
              rw [← HX2.out]; exact this 16 _ rfl)
            clear hV2 HN X HX2
            generalize hP6 : v1.heap.size = P6 at s16 hlt2 ⊢
            replace hP6 := Lib.hid hP6
            have c16 := s16.out
            have cl : V2.cell? ⟨R, ix 1 * 2 + 1, none⟩ = some (.int .i32 (lF ix L 1)) := ac B2.out (hL.out.rul.l (ix 1) hxn)
            go_upto_region 21 with fail
            refine wp_gen (fun V3 hV3 => ?_)
            have B3 : Hid (Below V2.heap.size V2 V3) := Lib.hid (by rw [hV3]; exact ba _ _)
            have s17 : V3.cell? ⟨V2.heap.size, 0, none⟩ = some (.int .i32 (lF ix L 1)) := by rw [hV3]; simp [go_sem]
            have s16' : V3.cell? ⟨P6, 16, none⟩ = some (.int .u32 (ix 1)) := ac B3.out s16.out
            have hlt3 : V2.heap.size < V3.heap.size := by rw [hV3]; simp
            clear hV3 c16 cl
            have B13 : Hid (Below v1.heap.size v1 V3) := Lib.hid (B2.out.trans (B3.out.mono B2.out.size))
            generalize hP7 : V2.heap.size = P7 at s17 hlt2 hlt3 ⊢
            replace hP7 := Lib.hid hP7
            have HK := Lib.hid (fun hc V' => LP.keep (V' := V') hL.out B13.out hxn (by omega) hc)
            have HT := Lib.hid (fun hc V' => LP.take (V' := V') hL.out B13.out hxn (by omega) hc)
            have hMP : M < P6 := by have := hP6.out; omega
            have mc := ac B13.out hL.out.mc
            have mf : V3.frozen? ⟨M, 0, none⟩ = false := by obtain ⟨_, -, h⟩ := hL.out.mr.after B13.out 0 (by omega); exact h
            obtain ⟨g0, e0, f0⟩ := (hL.out.rul.after B13.out).room (ix 1 * 2) (by omega)
            obtain ⟨g1, e1, f1⟩ := (hL.out.rul.after B13.out).room (ix 1 * 2 + 1) (by omega)
            have HLF := Lib.hid (rfl : lF ix L 1 = lF ix L 1)
            by_cases hcmp : lF ix L 1 < mnF ix L 1
            · have hcm := Lib.hid (Or.inr hcmp : (1 : Nat) = 0 ∨ lF ix L 1 < mnF ix L 1)
              go_upto_region 23 with fail
              refine wp_gen (fun V4 hV4 => ?_)
              replace hV4 := Lib.hid hV4
              have O4 : Hid (Only (fun z => z = M) V3 V4) := Lib.hid (by rw [hV4.out]; exact (Only.refl _).set _ _ rfl)
              replace s16' := O4.out.keep s16' (by show ¬ P6 = M; omega)
              replace e0 := O4.out.keep e0 (by show ¬ R = M; omega)
              replace e1 := O4.out.keep e1 (by show ¬ R = M; omega)
              replace f0 : V4.frozen? ⟨R, ix 1 * 2, none⟩ = false := by rw [hV4.out, fz]; exact f0
              replace f1 : V4.frozen? ⟨R, ix 1 * 2 + 1, none⟩ = false := by rw [hV4.out, fz]; exact f1
              clear mc mf s17
              go_wp2
              go_roundw
              case rel => exact ⟨2, by omega, by go_num, HT.out hcm.out _ (by rw [hV4.out])⟩
              case measure => simp [intOf]
            · have hcm := Lib.hid (by rintro (h | h); exact absurd h (by decide); exact hcmp h : ¬ ((1 : Nat) = 0 ∨ lF ix L 1 < mnF ix L 1))
              go_upto_region 23 with fail
              refine wp_gen (fun V4 hV4 => ?_)
              replace hV4 := Lib.hid hV4
              obtain rfl := hV4.out
              clear mc mf s17
              go_wp2
              go_roundw
              case rel => exact ⟨2, by omega, by go_num, HK.out hcm.out _ rfl⟩
              case measure => simp [intOf]
          · have X := ix67_2 F
            have hx := HIX.out 2 (by omega)
            have hx0 := hx.1
            have hxn : ix 2 < n := by omega
            have HX2 := Lib.hid hx.2
            clear hx
            have x0 : (0 : Int) ≤ (ix 2 : Nat) := by omega
            have x1 : ((ix 2 : Nat) : Int) < n0 := by omega
            have HN := Lib.hid (by have := Room.newN v1 zCn (n := 18) rfl 66; simpa using this : Room (v1.alloc (.cells zCn 66)) v1.heap.size 18)
            go_upto_region 20 with ((with_reducible refine wpList_at (o := ⟨none, .store 66 (.tmp 16) (.tmp 160), _, _, _, _⟩) ?_); refine wpList_store_room (op := ⟨none, .store 66 (.tmp 16) (.tmp 160), _, _, _, _⟩) rfl 66 (.tmp 16) (.tmp 160) rfl v1.heap.size 0 18 (cnL (F 2)) HN.out (l18 (F 2)) rfl rfl (i66 (F 2)) (cnL_one (F 2)) ?_; intro V2 hV2)
            have B2 : Hid (Below v1.heap.size v1 V2) := Lib.hid (by
              rw [hV2]
              exact (Only.setCells (S := fun z => z = v1.heap.size) _ rfl _ _ (Only.of (ba v1 _))).below v1.heap.size (Nat.le_refl _) (fun z e => by omega))
            have hlt2 : v1.heap.size < V2.heap.size := by rw [hV2, setCells_size]; simp
            have s16 : Hid (V2.cell? ⟨v1.heap.size, 16, none⟩ = some (.int .u32 (ix 2))) := Lib.hid (by
              have : Seg V2 v1.heap.size 0 (cnL (F 2)) := by rw [hV2]; exact Seg.put HN.out (l18 (F 2))
              rw [← HX2.out]; exact this 16 _ rfl)
            clear hV2 HN X HX2
            generalize hP6 : v1.heap.size = P6 at s16 hlt2 ⊢
            replace hP6 := Lib.hid hP6
            have c16 := s16.out
            have cl : V2.cell? ⟨R, ix 2 * 2 + 1, none⟩ = some (.int .i32 (lF ix L 2)) := ac B2.out (hL.out.rul.l (ix 2) hxn)
            go_upto_region 21 with fail
            refine wp_gen (fun V3 hV3 => ?_)
            have B3 : Hid (Below V2.heap.size V2 V3) := Lib.hid (by rw [hV3]; exact ba _ _)
            have s17 : V3.cell? ⟨V2.heap.size, 0, none⟩ = some (.int .i32 (lF ix L 2)) := by rw [hV3]; simp [go_sem]
            have s16' : V3.cell? ⟨P6, 16, none⟩ = some (.int .u32 (ix 2)) := ac B3.out s16.out
            have hlt3 : V2.heap.size < V3.heap.size := by rw [hV3]; simp
            clear hV3 c16 cl
            have B13 : Hid (Below v1.heap.size v1 V3) := Lib.hid (B2.out.trans (B3.out.mono B2.out.size))
            generalize hP7 : V2.heap.size = P7 at s17 hlt2 hlt3 ⊢
            replace hP7 := Lib.hid hP7
            have HK := Lib.hid (fun hc V' => LP.keep (V' := V') hL.out B13.out hxn (by omega) hc)
            have HT := Lib.hid (fun hc V' => LP.take (V' := V') hL.out B13.out hxn (by omega) hc)
            have hMP : M < P6 := by have := hP6.out; omega
            have mc := ac B13.out hL.out.mc
            have mf : V3.frozen? ⟨M, 0, none⟩ = false := by obtain ⟨_, -, h⟩ := hL.out.mr.after B13.out 0 (by omega); exact h
            obtain ⟨g0, e0, f0⟩ := (hL.out.rul.after B13.out).room (ix 2 * 2) (by omega)
            obtain ⟨g1, e1, f1⟩ := (hL.out.rul.after B13.out).room (ix 2 * 2 + 1) (by omega)
            have HLF := Lib.hid (rfl : lF ix L 2 = lF ix L 2)
            by_cases hcmp : lF ix L 2 < mnF ix L 2
            · have hcm := Lib.hid (Or.inr hcmp : (2 : Nat) = 0 ∨ lF ix L 2 < mnF ix L 2)
              go_upto_region 23 with fail
              refine wp_gen (fun V4 hV4 => ?_)
              replace hV4 := Lib.hid hV4
              have O4 : Hid (Only (fun z => z = M) V3 V4) := Lib.hid (by rw [hV4.out]; exact (Only.refl _).set _ _ rfl)
              replace s16' := O4.out.keep s16' (by show ¬ P6 = M; omega)
              replace e0 := O4.out.keep e0 (by show ¬ R = M; omega)
              replace e1 := O4.out.keep e1 (by show ¬ R = M; omega)
              replace f0 : V4.frozen? ⟨R, ix 2 * 2, none⟩ = false := by rw [hV4.out, fz]; exact f0
              replace f1 : V4.frozen? ⟨R, ix 2 * 2 + 1, none⟩ = false := by rw [hV4.out, fz]; exact f1
              clear mc mf s17
              go_wp2
              go_roundw
              case rel => exact ⟨3, by omega, by go_num, HT.out hcm.out _ (by rw [hV4.out])⟩
              case measure => simp [intOf]
            · have hcm := Lib.hid (by rintro (h | h); exact absurd h (by decide); exact hcmp h : ¬ ((2 : Nat) = 0 ∨ lF ix L 2 < mnF ix L 2))
              go_upto_region 23 with fail
              refine wp_gen (fun V4 hV4 => ?_)
              replace hV4 := Lib.hid hV4
              obtain rfl := hV4.out
              clear mc mf s17
              go_wp2
              go_roundw
              case rel => exact ⟨3, by omega, by go_num, HK.out hcm.out _ rfl⟩
              case measure => simp [intOf]
          · have X := ix67_3 F
            have hx := HIX.out 3 (by omega)
            have hx0 := hx.1
            have hxn : ix 3 < n := by omega
            have HX2 := Lib.hid hx.2
            clear hx
            have x0 : (0 : Int) ≤ (ix 3 : Nat) := by omega
            have x1 : ((ix 3 : Nat) : Int) < n0 := by omega
            have HN := Lib.hid (by have := Room.newN v1 zCn (n := 18) rfl 66; simpa using this : Room (v1.alloc (.cells zCn 66)) v1.heap.size 18)
            go_upto_region 20 with ((with_reducible refine wpList_at (o := ⟨none, .store 66 (.tmp 16) (.tmp 160), _, _, _, _⟩) ?_); refine wpList_store_room (op := ⟨none, .store 66 (.tmp 16) (.tmp 160), _, _, _, _⟩) rfl 66 (.tmp 16) (.tmp 160) rfl v1.heap.size 0 18 (cnL (F 3)) HN.out (l18 (F 3)) rfl rfl (i66 (F 3)) (cnL_one (F 3)) ?_; intro V2 hV2)
            have B2 : Hid (Below v1.heap.size v1 V2) := Lib.hid (by
              rw [hV2]
              exact (Only.setCells (S := fun z => z = v1.heap.size) _ rfl _ _ (Only.of (ba v1 _))).below v1.heap.size (Nat.le_refl _) (fun z e => by omega))
            have hlt2 : v1.heap.size < V2.heap.size := by rw [hV2, setCells_size]; simp
            have s16 : Hid (V2.cell? ⟨v1.heap.size, 16, none⟩ = some (.int .u32 (ix 3))) := Lib.hid (by
              have : Seg V2 v1.heap.size 0 (cnL (F 3)) := by rw [hV2]; exact Seg.put HN.out (l18 (F 3))
              rw [← HX2.out]; exact this 16 _ rfl)
            clear hV2 HN X HX2
            generalize hP6 : v1.heap.size = P6 at s16 hlt2 ⊢
            replace hP6 := Lib.hid hP6
            have c16 := s16.out
            have cl : V2.cell? ⟨R, ix 3 * 2 + 1, none⟩ = some (.int .i32 (lF ix L 3)) := ac B2.out (hL.out.rul.l (ix 3) hxn)
            go_upto_region 21 with fail
            refine wp_gen (fun V3 hV3 => ?_)
            have B3 : Hid (Below V2.heap.size V2 V3) := Lib.hid (by rw [hV3]; exact ba _ _)
            have s17 : V3.cell? ⟨V2.heap.size, 0, none⟩ = some (.int .i32 (lF ix L 3)) := by rw [hV3]; simp [go_sem]
            have s16' : V3.cell? ⟨P6, 16, none⟩ = some (.int .u32 (ix 3)) := ac B3.out s16.out
            have hlt3 : V2.heap.size < V3.heap.size := by rw [hV3]; simp
            clear hV3 c16 cl
            have B13 : Hid (Below v1.heap.size v1 V3) := Lib.hid (B2.out.trans (B3.out.mono B2.out.size))
            generalize hP7 : V2.heap.size = P7 at s17 hlt2 hlt3 ⊢
            replace hP7 := Lib.hid hP7
            have HK := Lib.hid (fun hc V' => LP.keep (V' := V') hL.out B13.out hxn (by omega) hc)
            have HT := Lib.hid (fun hc V' => LP.take (V' := V') hL.out B13.out hxn (by omega) hc)
            have hMP : M < P6 := by have := hP6.out; omega
            have mc := ac B13.out hL.out.mc
            have mf : V3.frozen? ⟨M, 0, none⟩ = false := by obtain ⟨_, -, h⟩ := hL.out.mr.after B13.out 0 (by omega); exact h
            obtain ⟨g0, e0, f0⟩ := (hL.out.rul.after B13.out).room (ix 3 * 2) (by omega)
            obtain ⟨g1, e1, f1⟩ := (hL.out.rul.after B13.out).room (ix 3 * 2 + 1) (by omega)
            have HLF := Lib.hid (rfl : lF ix L 3 = lF ix L 3)
            by_cases hcmp : lF ix L 3 < mnF ix L 3
            · have hcm := Lib.hid (Or.inr hcmp : (3 : Nat) = 0 ∨ lF ix L 3 < mnF ix L 3)
              go_upto_region 23 with fail
              refine wp_gen (fun V4 hV4 => ?_)
              replace hV4 := Lib.hid hV4
              have O4 : Hid (Only (fun z => z = M) V3 V4) := Lib.hid (by rw [hV4.out]; exact (Only.refl _).set _ _ rfl)
              replace s16' := O4.out.keep s16' (by show ¬ P6 = M; omega)
              replace e0 := O4.out.keep e0 (by show ¬ R = M; omega)
              replace e1 := O4.out.keep e1 (by show ¬ R = M; omega)
              replace f0 : V4.frozen? ⟨R, ix 3 * 2, none⟩ = false := by rw [hV4.out, fz]; exact f0
              replace f1 : V4.frozen? ⟨R, ix 3 * 2 + 1, none⟩ = false := by rw [hV4.out, fz]; exact f1
              clear mc mf s17
              go_wp2
              go_roundw
              case rel => exact ⟨4, by omega, by go_num, HT.out hcm.out _ (by rw [hV4.out])⟩
              case measure => simp [intOf]
            · have hcm := Lib.hid (by rintro (h | h); exact absurd h (by decide); exact hcmp h : ¬ ((3 : Nat) = 0 ∨ lF ix L 3 < mnF ix L 3))
              go_upto_region 23 with fail
              refine wp_gen (fun V4 hV4 => ?_)
              replace hV4 := Lib.hid hV4
              obtain rfl := hV4.out
              clear mc mf s17
              go_wp2
              go_roundw
              case rel => exact ⟨4, by omega, by go_num, HK.out hcm.out _ rfl⟩
              case measure => simp [intOf]
          · have c70 : v1.cell? ⟨b, 70, none⟩ = some (.int .u32 (ix 3)) := by
              rw [← (HIX.out 3 (by omega)).2]
              exact hL.out.only.keep (by simpa using t7.out.cn 3 (by omega) 16 _ rfl) (by show ¬ (b = R ∨ b = M); have := HbR.out; omega)
            have c72 : v1.cell? ⟨b, 72, none⟩ = some (.bool imp) := hL.out.only.keep t7.out.im (by show ¬ (b = R ∨ b = M); have := HbR.out; omega)
            have cM := hL.out.mc
            have cP0 : v1.cell? ⟨P, 0, none⟩ = some (.int .i32 lo) := hL.out.only.keep lo7.out (by show ¬ (P = R ∨ P = M); omega)
            have cP1 : v1.cell? ⟨P, 1, none⟩ = some (.int .i32 len) := hL.out.only.keep len7.out (by show ¬ (P = R ∨ P = M); omega)
            have hx0 := (HIX.out 3 (by omega)).1
            have hx : ix 3 < n := by omega
            have x0 : (0 : Int) ≤ (ix 3 : Nat) := by omega
            have x1 : ((ix 3 : Nat) : Int) < n0 := by omega
            obtain ⟨g0, e0, f0⟩ := hL.out.rul.room (ix 3 * 2) (by omega)
            obtain ⟨g1, e1, f1⟩ := hL.out.rul.room (ix 3 * 2 + 1) (by omega)
            have hfin := Lib.hid (fun V hb => LP.done (V := V) hL.out hb hx (by omega))
            have hRv : R < v1.heap.size := by omega
            have hbv : b < v1.heap.size := by omega
            have hPv : P < v1.heap.size := by omega
            go_wp2
            go_region
            refine bodyPost_end (v := .tuple #[]) (by simp [results, Tryd.results26, go_sem]) rfl ?_
            obtain ⟨hO, hRu⟩ := hfin.out v1 (Below.refl _ _) v1.heap.size
            have hsz : ((v1.setCell ⟨R, ix 3 * 2, none⟩ (.iface 36 (.pointer (some ⟨v1.heap.size, 0, none⟩)))).setCell ⟨R, ix 3 * 2 + 1, none⟩ (.int .i32 (mnF ix L 4))).heap.size = v1.heap.size := by simp [World.setCell]
            exact comp_end hRu hO bw7.out hwM.out q7.out hT1.out (by have := hT1.out; have := hP.out; omega) (by omega) hsz
end Go.Proofs.YthdogpahkglaoaaDoor

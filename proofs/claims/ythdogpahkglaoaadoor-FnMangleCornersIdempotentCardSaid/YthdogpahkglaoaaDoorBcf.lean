/- mangleCorners at four or fewer tokens, no slash. -/
import Derived.Test.YthdogpahkglaoaaDoorBce
set_option linter.unusedVariables false
set_option linter.unusedSimpArgs false
namespace Go.Proofs.YthdogpahkglaoaaDoor
open Go.RowKit
theorem i80 (G : Nat → Tk) : (Tryd.prog.info? 80).map (·.size) = some (quadL G).length := (by kernel_rfl : (Tryd.prog.info? 80).map (·.size) = some 28)
theorem quadL_one (G : Nat → Tk) : ∀ v ∈ quadL G, v.oneCell' = true := by
  intro v hv
  simp only [quadL, List.mem_append] at hv
  rcases hv with h | h | h | h <;> exact tkL_one _ v h
def qL (G : Nat → Tk) : List Value := quadL G
theorem i80q (G : Nat → Tk) : (Tryd.prog.info? 80).map (·.size) = some (qL G).length := i80 G
theorem qL_one (G : Nat → Tk) : ∀ v ∈ qL G, v.oneCell' = true := quadL_one G
def GQ' (G : Nat → Tk) (b : Bool) (w : World) (e : Ending) (w' : World) : Prop := e = .returned (.tuple #[.agg (qL G).toArray, .bool b]) ∧ Below w.heap.size w w'
theorem exq_ok (T N c : Nat) (F : Nat → Tk) (w : World) (hN : 1 ≤ N) (hN4 : N ≤ 4) (hF : ∀ i, i < N → TAt w T (i * 7) (F i)) (hc : ∀ i, i < N → (F i).ch = .pointer none) (hk : ∀ i, i < N → kdOk (F i)) :
    Calls Tryd.prog 27 #[.slice (some ⟨T, 0, none⟩) N c, .string ⟨#[]⟩] w (GQ' (xq N F) true w) := by
  have hk' : ∀ i, i < N → ((F i).kd == 30 || (F i).kd == 34 || (F i).kd == 26) = true := fun i hi => by rcases hk i hi with h | ⟨h, -⟩ <;> rw [h] <;> rfl
  have hF' : ∀ i, i < N → TAt w T (0 + i * 7) (F i) := fun i hi => by rw [Nat.zero_add]; exact hF i hi
  rcases (by omega : N = 1 ∨ N = 2 ∨ N = 3 ∨ N = 4) with rfl | rfl | rfl | rfl
  · exact exq_ok1 T 0 c F w hF' hc hk'
  · exact exq_ok2 T 0 c F w hF' hc hk'
  · exact exq_ok3 T 0 c F w hF' hc hk'
  · exact exq_ok4 T 0 c F w hF' hc hk'
theorem exq_nil (A : Option Addr) (c : Nat) (w : World) : Calls Tryd.prog 27 #[.slice A 0 c, .string ⟨#[]⟩] w (GQ' zq false w) := exq_no A 0 c w (.inl rfl)
theorem xq_all {p : Tk → Prop} {N : Nat} {G : Nat → Tk} (hN : 1 ≤ N) (h : ∀ i, i < N → p (G i)) (i : Nat) : p (xq N G i) := by
  unfold xq
  repeat' split
  all_goals exact h _ (by omega)
theorem UpR.cg {F F' : Nat → Cn} {k n nr : Nat} {x : Cn} {D D' : Nat → Value} {L L' : Nat → Int} (h : UpR F k n nr x D D' L L') (e : F k = F' k) : UpR F' k n nr x D D' L L' := by
  unfold UpR at *
  rwa [← e]
def mixF (n : Nat) (X : Nat → Tk) (F : Nat → Cn) (i : Nat) : Nat → Cn := fun k => if k < i then ⟨X k, X k, ⟨#[]⟩, 0, (n : Int) - 1, false⟩ else F k
theorem mixF_up (n : Nat) (X : Nat → Tk) (F : Nat → Cn) (i : Nat) : upF (mixF n X F i) i ⟨X i, X i, ⟨#[]⟩, 0, (n : Int) - 1, false⟩ = mixF n X F (i + 1) := by
  funext k
  unfold upF mixF
  by_cases e : k = i
  · subst e; rw [if_pos rfl, if_pos (by omega)]
  · rw [if_neg e]
    by_cases h : k < i
    · rw [if_pos h, if_pos (by omega)]
    · rw [if_neg h, if_neg (by omega)]
structure MS (W : World) (b R n nr : Nat) (X : Nat → Tk) (F : Nat → Cn) (imp : Bool) (Dk : Nat → Nat → Value) (Lk : Nat → Nat → Int) (i : Nat) (wr : World) : Prop where
  trk : Trk wr b (mixF n X F i) imp
  rul : Rul wr R nr (Dk i) (Lk i)
  only : Only (fun z => z = b ∨ z = R) W wr
theorem MS.step {W v V V' : World} {b R n nr : Nat} {X : Nat → Tk} {F : Nat → Cn} {imp : Bool} {Dk : Nat → Nat → Value} {Lk : Nat → Nat → Int} {i : Nat} (h : MS W b R n nr X F imp Dk Lk i v) (hb : Below v.heap.size v V) (ht : Trk V' b (upF (mixF n X F i) i ⟨X i, X i, ⟨#[]⟩, 0, (n : Int) - 1, false⟩) imp) (hr : Rul V' R nr (Dk (i + 1)) (Lk (i + 1))) (ho : Only (fun z => z = b ∨ z = R) V V') : MS W b R n nr X F imp Dk Lk (i + 1) V' :=
  ⟨by rw [← mixF_up]; exact ht, hr, h.only.trans ((Only.of hb).trans ho)⟩
theorem ups_i (b k : Nat) (kk : Int) (hkk : kk = (k : Int)) (R n nr c : Nat) (hnr : n ≤ nr) (F : Nat → Cn) (imp : Bool) (x : Cn) (D D' : Nat → Value) (L L' : Nat → Int) (w : World) (h : Trk w b F imp) (hk : k < 4) (hR : Rul w R nr D L) (hn : n ≤ 4096) (hbR : b ≠ R) (hu : UpR F k n nr x D D' L L') :
    Calls Tryd.prog 25 #[.pointer (some ⟨b, 0, none⟩), .slice (some ⟨R, 0, none⟩) n c, .int .i64 kk, x.val] w (UpP b k R n nr F imp x D' L' w) := by
  subst hkk
  exact ups b k R n nr c hnr F imp x D D' L L' w h hk hR hn hbR hu
theorem Trk.cg {w : World} {b : Nat} {F F' : Nat → Cn} {imp : Bool} (h : Trk w b F imp) (e : ∀ k, k < 4 → F k = F' k) : Trk w b F' imp := ⟨fun k hk => by rw [← e k hk]; exact h.cn k hk, h.im, h.room⟩
structure UC (w : World) (U : Nat) : Prop where
  c0 : w.cell? ⟨U, 0, none⟩ = some (.string ⟨#[]⟩)
  c1 : w.cell? ⟨U, 1, none⟩ = some (.int .u8 0)
  f1 : w.frozen? ⟨U, 1, none⟩ = false
theorem UC.after {w w' : World} {U : Nat} (h : UC w U) (hb : Below w.heap.size w w') : UC w' U := ⟨ac hb h.c0, ac hb h.c1, af hb h.c1 h.f1⟩
set_option maxRecDepth 100000 in
theorem sl23h (W : World) (T o n c : Nat) (h : n ≤ c) : (Instr.sliceAt 23 (.slice (some ⟨T, o, none⟩) n c) none (some (.int .i64 (n : Int))) none).run Tryd.prog W = .ok (.slice (some ⟨T, o, none⟩) n c) W := by
  rw [run_sliceAt_slice W 23 _ _ _ _ Tryd.underlying23, run_slice_h W 23 _ _ _ Tryd.underlying23 .i64 _ (by omega) (by omega)]
  have hs : (sizeOf (Tryd.prog.elem 23)).run Tryd.prog W = .ok 7 W := by kernel_rfl
  rw [hs]
  simp [Result.andThen, sliced, Addr.add]
set_option maxRecDepth 100000 in
theorem sl23l (T o n c : Nat) (h : n ≤ c) : ∃ A, ∀ W, (Instr.sliceAt 23 (.slice (some ⟨T, o, none⟩) n c) (some (.int .i64 (n : Int))) none none).run Tryd.prog W = .ok (.slice A 0 (c - n)) W := by
  refine ⟨if c = n then some ⟨T, o, none⟩ else some ((⟨T, o, none⟩ : Addr).add (n * 7)), fun W => ?_⟩
  rw [run_sliceAt_slice W 23 _ _ _ _ Tryd.underlying23, run_slice_l W 23 _ _ _ Tryd.underlying23 .i64 _ (by omega) (by omega)]
  have hs : (sizeOf (Tryd.prog.elem 23)).run Tryd.prog W = .ok 7 W := by kernel_rfl
  rw [hs]
  by_cases e : c = n <;> simp [Result.andThen, sliced, e]
theorem ix80_0 (G : Nat → Tk) (w : World) : (Instr.index 80 (.agg (qL G).toArray) (.int .i64 0)).run Tryd.prog w = .ok (.agg (tkL (G 0)).toArray) w := by kernel_rfl
theorem ix80_1 (G : Nat → Tk) (w : World) : (Instr.index 80 (.agg (qL G).toArray) (.int .i64 1)).run Tryd.prog w = .ok (.agg (tkL (G 1)).toArray) w := by kernel_rfl
theorem ix80_2 (G : Nat → Tk) (w : World) : (Instr.index 80 (.agg (qL G).toArray) (.int .i64 2)).run Tryd.prog w = .ok (.agg (tkL (G 2)).toArray) w := by kernel_rfl
theorem ix80_3 (G : Nat → Tk) (w : World) : (Instr.index 80 (.agg (qL G).toArray) (.int .i64 3)).run Tryd.prog w = .ok (.agg (tkL (G 3)).toArray) w := by kernel_rfl
set_option maxRecDepth 100000 in
set_option maxHeartbeats 4000000 in
theorem mcs_g (b R n nr c Dd T cc N : Nat) (F : Nat → Cn) (imp0 imp m : Bool) (G : Nat → Tk) (kt : ByteArray) (lo len key : Int) (D : Nat → Value) (L : Nat → Int) (Dk : Nat → Nat → Value) (Lk : Nat → Nat → Int) (Q : World → Ending → World → Prop) (w : World) (h : Trk w b F imp0) (hFr : imp0 = imp ∨ F = fun _ => Cn0) (hR : Rul w R nr (Dk 0) (Lk 0)) (hD : Seg w Dd 0 (dcL kt (.slice (some ⟨T, 0, none⟩) N cc) lo len key imp)) (ht : ∀ i, i < N → TAt w T (i * 7) (G i)) (hch : ∀ i, i < N → (G i).ch = .pointer none) (hkd : ∀ i, i < N → kdOk (G i))
    (hN : 1 ≤ N) (hN4 : N ≤ 4) (hNc : N ≤ cc) (hn : n ≤ 4096) (hn1 : 1 ≤ n) (hnr : n ≤ nr) (hbR : b ≠ R) (hbD : b ≠ Dd) (hbT : b ≠ T) (hDR : Dd ≠ R)
    (hU : ∀ k, k < 4 → UpR F k n nr ⟨xq N G k, xq N G k, ⟨#[]⟩, 0, (n : Int) - 1, false⟩ (Dk k) (Dk (k + 1)) (Lk k) (Lk (k + 1)))
    (hC : ∀ w1, Trk w1 b (fun k => ⟨xq N G k, xq N G k, ⟨#[]⟩, 0, (n : Int) - 1, false⟩) imp → Rul w1 R nr (Dk 4) (Lk 4) → Only (fun z => z = b ∨ z = R) w w1 → Calls Tryd.prog 26 #[.pointer (some ⟨b, 0, none⟩), .slice (some ⟨R, 0, none⟩) n c, .agg #[.int .i32 lo, .int .i32 len], .bool m] w1 (Q w1)) (hQ : ∀ w1 e w', Q w1 e w' → e = .returned (.tuple #[])) :
    Calls Tryd.prog 18 #[.pointer (some ⟨b, 0, none⟩), .slice (some ⟨R, 0, none⟩) n c, .pointer (some ⟨Dd, 0, none⟩), .bool m] w (Via (fun w1 => Trk w1 b (fun k => ⟨xq N G k, xq N G k, ⟨#[]⟩, 0, (n : Int) - 1, false⟩) imp ∧ Rul w1 R nr (Dk 4) (Lk 4) ∧ Only (fun z => z = b ∨ z = R) w w1) Q) := by
  have H := Lib.hid h
  have HR := Lib.hid hR
  have HD := Lib.hid hD
  have HT := Lib.hid ht
  have HCH := Lib.hid hch
  have HKD := Lib.hid hkd
  replace hFr := Lib.hid hFr
  have HbR := Lib.hid hbR
  have HbD := Lib.hid hbD
  have HbT := Lib.hid hbT
  have HU := Lib.hid hU
  have HDR := Lib.hid hDR
  replace hC := Lib.hid hC
  replace hQ := Lib.hid hQ
  have hbl : b < w.heap.size := h.room.lt (by omega)
  have hDl : Dd < w.heap.size := block_lt_of_cell (hD 0 _ rfl)
  have hTl : T < w.heap.size := block_lt_of_cell (ht 0 (by omega)).c0
  have hRl : R < w.heap.size := hR.room.lt (by omega)
  clear h hR hD ht hch hkd hbR hbD hbT hU hDR
  go_enter Tryd.func18, Tryd.ntmps18
  go_upto_region 0 with fail
  have y72 : ∀ d os, (Sort.grow (redrawn w d) os).cell? ⟨b, 72, none⟩ = some (.bool imp0) := fun d os => cell_regrown H.out.im d os
  have y5 : ∀ d os, (Sort.grow (redrawn w d) os).cell? ⟨Dd, 5, none⟩ = some (.bool imp) := fun d os => cell_regrown (by simpa using HD.out 5 _ rfl) d os
  refine drawn_tail 8 (by kernel_rfl) (by kernel_rfl) (by kernel_rfl) (fun Q hQ => ?_)
  simp only [List.take_succ_cons, List.take_zero, List.drop_succ_cons, List.drop_zero]
  repeat (quiet_step (fail))
  refine wpQuiet_nil ?_
  intro w1 hw
  have b1 : Hid (Below w.heap.size w w1) := Lib.hid (by
    obtain ⟨⟨d, os⟩, rfl⟩ := hw
    exact below_regrown _ d os)
  clear hw y72 y5
  go_upto_if 34 with fail
  go_cut [0] (fun v wx => v = .pointer (some ⟨b, 0, none⟩) ∧ Trk wx b F imp ∧ Only (fun z => z = b) w wx)
  case first =>
    have t1 : Hid (Trk w1 b F imp0) := Lib.hid (H.out.after b1.out)
    cases imp0 <;> cases imp
    · go_wp2
      go_meet
      exact ⟨rfl, t1.out, Only.of b1.out⟩
    · have hFF := Lib.hid (hFr.out.resolve_left (by decide))
      have d5 := (by simpa using (HD.out.after b1.out) 5 _ rfl : w1.cell? ⟨Dd, 5, none⟩ = some (.bool true))
      have hbD' := HbD.out
      go_upto_region 2 with ((with_reducible refine wpList_at (o := ⟨none, .store 67 (.tmp 38) (.tmp 36), _, _, _, _⟩) ?_); refine wpList_store_room (op := ⟨none, .store 67 (.tmp 38) (.tmp 36), _, _, _, _⟩) rfl 67 (.tmp 38) (.tmp 36) rfl b 0 73 (trk4 fun _ => Cn0) t1.out.room (by show 0 + 72 ≤ 73; omega) rfl (congrArg Value.agg zero67) (i67 _) trk4_one ?_; intro w2 hW2)
      have o2 : Hid (Only (fun z => z = b) w1 w2) := Lib.hid (by rw [hW2]; exact Only.setCells (S := fun z => z = b) b rfl _ _ (Only.refl _))
      have d5' : w2.cell? ⟨Dd, 5, none⟩ = some (.bool true) := o2.out.keep d5 (fun e => hbD' e.symm)
      obtain ⟨v72, e72, f72⟩ := (o2.out.rooms _ _ t1.out.room) 72 (by omega)
      replace hW2 := Lib.hid hW2
      clear d5
      go_wp2
      go_meet
      exact ⟨rfl, by rw [hFF.out]; exact t1.out.reset (by rw [hW2.out]), ((Only.of b1.out).trans o2.out).set _ _ rfl⟩
    · have hFF := Lib.hid (hFr.out.resolve_left (by decide))
      have d5 := (by simpa using (HD.out.after b1.out) 5 _ rfl : w1.cell? ⟨Dd, 5, none⟩ = some (.bool false))
      have hbD' := HbD.out
      go_upto_region 2 with ((with_reducible refine wpList_at (o := ⟨none, .store 67 (.tmp 38) (.tmp 36), _, _, _, _⟩) ?_); refine wpList_store_room (op := ⟨none, .store 67 (.tmp 38) (.tmp 36), _, _, _, _⟩) rfl 67 (.tmp 38) (.tmp 36) rfl b 0 73 (trk4 fun _ => Cn0) t1.out.room (by show 0 + 72 ≤ 73; omega) rfl (congrArg Value.agg zero67) (i67 _) trk4_one ?_; intro w2 hW2)
      have o2 : Hid (Only (fun z => z = b) w1 w2) := Lib.hid (by rw [hW2]; exact Only.setCells (S := fun z => z = b) b rfl _ _ (Only.refl _))
      have d5' : w2.cell? ⟨Dd, 5, none⟩ = some (.bool false) := o2.out.keep d5 (fun e => hbD' e.symm)
      obtain ⟨v72, e72, f72⟩ := (o2.out.rooms _ _ t1.out.room) 72 (by omega)
      replace hW2 := Lib.hid hW2
      clear d5
      go_wp2
      go_meet
      exact ⟨rfl, by rw [hFF.out]; exact t1.out.reset (by rw [hW2.out]), ((Only.of b1.out).trans o2.out).set _ _ rfl⟩
    · go_wp2
      go_meet
      exact ⟨rfl, t1.out, Only.of b1.out⟩
  case rest =>
    obtain ⟨rfl, t2, o2⟩ := hcut
    obtain ⟨w2, rfl⟩ : ∃ w2, w2 = wc := ⟨_, rfl⟩
    replace t2 := Lib.hid t2
    replace o2 := Lib.hid o2
    clear b1
    have D2 : Hid (Seg w2 Dd 0 (dcL kt (.slice (some ⟨T, 0, none⟩) N cc) lo len key imp)) := Lib.hid (HD.out.only o2.out (fun e => HbD.out e.symm))
    have T2 : Hid (∀ i, i < N → Seg w2 T (i * 7) (tkL (G i))) := Lib.hid (fun i hi => ((HT.out i hi).seg (HCH.out i hi)).only o2.out (fun e => HbT.out e.symm))
    have R2 : Hid (Rul w2 R nr (Dk 0) (Lk 0)) := Lib.hid (HR.out.only o2.out (fun e => HbR.out e.symm))
    replace hbl : b < w2.heap.size := Nat.lt_of_lt_of_le hbl o2.out.size
    replace hDl : Dd < w2.heap.size := Nat.lt_of_lt_of_le hDl o2.out.size
    replace hTl : T < w2.heap.size := Nat.lt_of_lt_of_le hTl o2.out.size
    replace hRl : R < w2.heap.size := Nat.lt_of_lt_of_le hRl o2.out.size
    clear HD HT HR H
    have d1 : w2.cell? ⟨Dd, 1, none⟩ = some (.slice (some ⟨T, 0, none⟩) N cc) := by simpa using D2.out 1 _ rfl
    go_upto_region 7 with fail
    clear d1
    go_loopw [56, 9, 10] (fun v v9 v10 wr => ∃ i : Nat, i ≤ N ∧ v = .int .i64 i ∧ v9 = .int .i64 N ∧ v10 = .int .i64 N ∧ Below w2.heap.size w2 wr) (fun v _ _ _ => N - (intOf v).toNat)
    case atStart => exact ⟨0, by omega, rfl, rfl, rfl, Below.refl _ _⟩
    case round =>
      obtain ⟨i, hi, rfl, rfl, rfl, hB⟩ := hrel
      obtain ⟨w3, rfl⟩ : ∃ w3 : World, w3 = wr := ⟨_, rfl⟩
      replace hB := Lib.hid hB
      by_cases hlt : i < N
      · have i0 : (0 : Int) ≤ i := by omega
        have i1 : (i : Int) < N := by omega
        have sg := Lib.hid ((T2.out i hlt).after hB.out)
        have d0 : w3.cell? ⟨T, i * 7, none⟩ = some (.pointer none) := by simpa using sg.out 0 _ rfl
        have d1 : w3.cell? ⟨T, i * 7 + 1, none⟩ = some (.string (G i).tx) := by simpa using sg.out 1 _ rfl
        have d2 : w3.cell? ⟨T, i * 7 + 2, none⟩ = some (.int .i32 (G i).lo) := by simpa using sg.out 2 _ rfl
        have d3 : w3.cell? ⟨T, i * 7 + 3, none⟩ = some (.int .u32 (G i).pl) := by simpa using sg.out 3 _ rfl
        have d4 : w3.cell? ⟨T, i * 7 + 4, none⟩ = some (.int .u16 (G i).uo) := by simpa using sg.out 4 _ rfl
        have d5 : w3.cell? ⟨T, i * 7 + 5, none⟩ = some (.int .u8 (G i).kd) := by simpa using sg.out 5 _ rfl
        have d6 : w3.cell? ⟨T, i * 7 + 6, none⟩ = some (.int .u8 (G i).ws) := by simpa using sg.out 6 _ rfl
        have hk24 : ((G i).kd == 24) = false := by rcases HKD.out i hlt with h | ⟨h, -⟩ <;> rw [h] <;> rfl
        go_wp2
        go_roundw
        case rel => exact ⟨i + 1, by omega, by go_num, rfl, rfl, hB.out.trans (by repeat (first | exact (ba _ _).mono hB.out.size | refine Below.setCell ?_ (by simp; exact hB.out.size) _))⟩
        case measure => simp [intOf]; omega
      · obtain rfl : N = i := by omega
        have slh := fun W => sl23h W T 0 N cc hNc
        obtain ⟨A, hsl⟩ := sl23l T 0 N cc hNc
        go_wp2
        refine wp_gen (fun W4 hW => ?_)
        have b4 : Hid (Below w2.heap.size w2 W4) := Lib.hid (by rw [hW]; exact hB.out.trans ((ba _ _).mono hB.out.size))
        have u4 : Hid (UC W4 w3.heap.size) := Lib.hid (by rw [hW]; exact ⟨by simp [go_sem], by simp [go_sem], by simp [go_sem]⟩)
        have hU2 : w2.heap.size ≤ w3.heap.size := hB.out.size
        clear hW hB
        generalize w3.heap.size = U at *
        have C22 := Lib.hid (fun i (hi : i < N) w (h : UC w U) => unit0 U (G i) (HKD.out i hi) (HCH.out i hi) w h.c0 h.c1 h.f1)
        go_loopw [81] (fun v wr => ∃ i : Nat, i ≤ N ∧ v = .int .i64 i ∧ UC wr U ∧ Only (fun z => z = U) W4 wr) (fun v _ => N - (intOf v).toNat)
        case atStart => exact ⟨0, by omega, rfl, u4.out, Only.refl _⟩
        case round =>
          obtain ⟨i, hi, rfl, hu, hO⟩ := hrel
          obtain ⟨w5, rfl⟩ : ∃ w5 : World, w5 = wr := ⟨_, rfl⟩
          replace hO := Lib.hid hO
          replace hu := Lib.hid hu
          by_cases hlt : i < N
          · have i0 : (0 : Int) ≤ i := by omega
            have i1 : (i : Int) < N := by omega
            have sg := Lib.hid (((T2.out i hlt).after b4.out).only hO.out (by omega))
            have d0 : w5.cell? ⟨T, i * 7, none⟩ = some (.pointer none) := by simpa using sg.out 0 _ rfl
            have d1 : w5.cell? ⟨T, i * 7 + 1, none⟩ = some (.string (G i).tx) := by simpa using sg.out 1 _ rfl
            have d2 : w5.cell? ⟨T, i * 7 + 2, none⟩ = some (.int .i32 (G i).lo) := by simpa using sg.out 2 _ rfl
            have d3 : w5.cell? ⟨T, i * 7 + 3, none⟩ = some (.int .u32 (G i).pl) := by simpa using sg.out 3 _ rfl
            have d4 : w5.cell? ⟨T, i * 7 + 4, none⟩ = some (.int .u16 (G i).uo) := by simpa using sg.out 4 _ rfl
            have d5 : w5.cell? ⟨T, i * 7 + 5, none⟩ = some (.int .u8 (G i).kd) := by simpa using sg.out 5 _ rfl
            have d6 : w5.cell? ⟨T, i * 7 + 6, none⟩ = some (.int .u8 (G i).ws) := by simpa using sg.out 6 _ rfl
            have hUl : U < w5.heap.size := block_lt_of_cell hu.out.c0
            have hua := Lib.hid (fun o => hu.out.after (ba w5 o))
            clear slh hsl
            go_wp2_with (go_at_call 22; (with_reducible refine (C22.out i hlt _ (hua.out _)).mono ?_); rintro e w6 ⟨rfl, o6, v0, v1, vf⟩; replace o6 := Lib.hid o6; have u6 : Hid (UC w6 U) := Lib.hid ⟨v0, v1, vf⟩; clear v0 v1 vf)
            go_roundw
            case rel => exact ⟨i + 1, by omega, by go_num, u6.out, hO.out.trans ((Only.of (ba _ _)).trans o6.out)⟩
            case measure => simp [intOf]; omega
          · obtain rfl : N = i := by omega
            go_wp2
            go_loopw [92] (fun v wr => v = .int .i64 0 ∧ w5 = wr) (fun v _ => 0)
            case atStart => exact ⟨rfl, rfl⟩
            case round =>
              obtain ⟨rfl, rfl⟩ := hrel
              have b5 : Hid (Below w2.heap.size w2 w5) := Lib.hid (b4.out.trans (hO.out.below _ b4.out.size (fun z e => by omega)))
              have C27 := Lib.hid (exq_ok T N cc G w5 hN hN4 (fun i hi => ((T2.out i hi).after b5.out).tat (HCH.out i hi)) HCH.out HKD.out)
              have C27n := Lib.hid (fun w => exq_nil A (cc - N) w)
              obtain ⟨X, hX⟩ : ∃ X, X = xq N G := ⟨_, rfl⟩
              rw [← hX] at C27
              replace hX := Lib.hid hX
              go_wp2_with (first | (go_at_call 27; (with_reducible refine C27.out.mono ?_); rintro e w6 ⟨rfl, b6⟩; replace b6 := Lib.hid b6; have r6 := Lib.hid (fun z (hz : Array.size z = 28) => Room.newN w6 z hz 80)) | (go_at_call 27; (with_reducible refine (C27n.out _).mono ?_); rintro e w8 ⟨rfl, b8⟩; replace b8 := Lib.hid b8; have r8 := Lib.hid (fun z (hz : Array.size z = 28) => Room.newN w8 z hz 80)) | ((with_reducible refine wpList_at (o := ⟨none, .store 80 (.tmp 18) (.tmp 104), _, _, _, _⟩) ?_); refine wpList_store_room (op := ⟨none, .store 80 (.tmp 18) (.tmp 104), _, _, _, _⟩) rfl 80 (.tmp 18) (.tmp 104) rfl w6.heap.size 0 28 (qL X) (r6.out _ rfl) (by show 0 + 28 ≤ 28; omega) rfl rfl (i80q X) (qL_one X) ?_; intro W7 hW7; have s7 : Hid (Seg W7 w6.heap.size 0 (qL X)) := Lib.hid (by rw [hW7]; exact Seg.put (r6.out _ rfl) (by show 0 + 28 ≤ 28; omega)); have b7 : Hid (Below w6.heap.size w6 W7) := Lib.hid (by rw [hW7]; exact (Only.setCells (S := fun z => z = w6.heap.size) _ rfl _ _ (Only.of (ba w6 _))).below w6.heap.size (Nat.le_refl _) (fun z e => by omega)); clear hW7 r6) | ((with_reducible refine wpList_at (o := ⟨none, .store 80 (.tmp 20) (.tmp 111), _, _, _, _⟩) ?_); refine wpList_store_room (op := ⟨none, .store 80 (.tmp 20) (.tmp 111), _, _, _, _⟩) rfl 80 (.tmp 20) (.tmp 111) rfl w8.heap.size 0 28 (qL zq) (r8.out _ rfl) (by show 0 + 28 ≤ 28; omega) rfl rfl (i80q zq) (qL_one zq) ?_; intro W9 hW9; have b9 : Hid (Below w8.heap.size w8 W9) := Lib.hid (by rw [hW9]; exact (Only.setCells (S := fun z => z = w8.heap.size) _ rfl _ _ (Only.of (ba w8 _))).below w8.heap.size (Nat.le_refl _) (fun z e => by omega)); have s9 : Hid (Seg W9 w6.heap.size 0 (qL X)) := Lib.hid ((s7.out.after b8.out).after b9.out); clear hW9 r8 s7) | ((with_reducible refine wpList_at (o := ⟨some 128, .load 80 (.tmp 18), _, _, _, _⟩) ?_); refine wpList_load_seg (op := ⟨some 128, .load 80 (.tmp 18), _, _, _, _⟩) rfl 80 (.tmp 18) rfl w6.heap.size 0 rfl (qL X) _ Tryd.underlying80 rfl (i80q X) s9.out ?_))
              have bA : Hid (Below w2.heap.size w2 W9) := Lib.hid (by
                have h1 := b6.out.trans (b7.out.mono b6.out.size)
                have h2 := h1.trans (b8.out.mono h1.size)
                have h3 := h2.trans (b9.out.mono h2.size)
                exact b5.out.trans (h3.mono b5.out.size))
              have u9 : Hid (UC W9 U) := Lib.hid (by
                have h1 := b6.out.trans (b7.out.mono b6.out.size)
                have h2 := h1.trans (b8.out.mono h1.size)
                exact hu.out.after (h2.trans (b9.out.mono h2.size)))
              have hUl : U < W9.heap.size := block_lt_of_cell u9.out.c0
              have M0 : Hid (MS W9 b R n nr X F imp Dk Lk 0 W9) := Lib.hid ⟨(t2.out.after bA.out).cg (fun k _ => by unfold mixF; rw [if_neg (by omega)]), R2.out.after bA.out, Only.refl _⟩
              have D9 : Hid (Seg W9 Dd 0 (dcL kt (.slice (some ⟨T, 0, none⟩) N cc) lo len key imp)) := Lib.hid (D2.out.after bA.out)
              have hX1 : Hid (∀ i, kdOk (X i)) := Lib.hid (fun i => by rw [hX.out]; exact xq_all hN HKD.out i)
              have hX2 : Hid (∀ i, (X i).ch = .pointer none) := Lib.hid (fun i => by rw [hX.out]; exact xq_all (p := fun t => t.ch = .pointer none) hN HCH.out i)
              replace HU : Hid (∀ k, k < 4 → UpR F k n nr ⟨X k, X k, ⟨#[]⟩, 0, (n : Int) - 1, false⟩ (Dk k) (Dk (k + 1)) (Lk k) (Lk (k + 1))) := Lib.hid (by rw [hX.out]; exact HU.out)
              replace hC : Hid (∀ w1, Trk w1 b (fun k => ⟨X k, X k, ⟨#[]⟩, 0, (n : Int) - 1, false⟩) imp → Rul w1 R nr (Dk 4) (Lk 4) → Only (fun z => z = b ∨ z = R) w w1 → Calls Tryd.prog 26 #[.pointer (some ⟨b, 0, none⟩), .slice (some ⟨R, 0, none⟩) n c, .agg #[.int .i32 lo, .int .i32 len], .bool m] w1 (Q w1)) := Lib.hid (by rw [hX.out]; exact hC.out)
              have o9 : Hid (Only (fun z => z = b ∨ z = R) w W9) := Lib.hid ((o2.out.wide (fun _ h => .inl h)).trans (Only.of bA.out))
              have hPP : w6.heap.size < W9.heap.size := block_lt_of_cell (s9.out 0 _ rfl)
              have hb9 : b < W9.heap.size := by have := bA.out.size; omega
              have hR9 : R < W9.heap.size := by have := bA.out.size; omega
              have hUb : ¬ (U = b ∨ U = R) := by omega
              clear slh hsl C22 u4 hO hu b5 C27 C27n b6 b7 b8 b9 s9 D2 T2 R2 t2 b4 bA
              go_loopw [129] (fun v wr => ∃ i : Nat, i ≤ 4 ∧ v = .int .i64 i ∧ MS W9 b R n nr X F imp Dk Lk i wr) (fun v _ => 4 - (intOf v).toNat)
              case atStart => exact ⟨0, by omega, rfl, M0.out⟩
              case round =>
                clear M0
                obtain ⟨i, hi, rfl, hL⟩ := hrel
                obtain ⟨v1, rfl⟩ : ∃ v1 : World, v1 = wr := ⟨_, rfl⟩
                replace hL := Lib.hid hL
                have u1 : Hid (UC v1 U) := Lib.hid ⟨hL.out.only.keep u9.out.c0 hUb, hL.out.only.keep u9.out.c1 hUb, by rw [hL.out.only.froz _ hUl]; exact u9.out.f1⟩
                have hUv : U < v1.heap.size := block_lt_of_cell u1.out.c0
                rcases (by omega : i = 0 ∨ i = 1 ∨ i = 2 ∨ i = 3 ∨ i = 4) with rfl | rfl | rfl | rfl | rfl
                · have Xi := ix80_0 X
                  go_upto_region 33 with fail
                  refine wp_gen (fun V2 hV2 => ?_)
                  have B2 : Hid (Below v1.heap.size v1 V2) := Lib.hid (by rw [hV2]; exact ba _ _)
                  have s2 : Hid (Seg V2 v1.heap.size 0 (tkL (X 0))) := Lib.hid (by rw [hV2]; exact Seg.new v1 (tkL (X 0)) 32)
                  clear hV2 Xi
                  have u2 : Hid (UC V2 U) := Lib.hid (u1.out.after B2.out)
                  have ta := Lib.hid (s2.out.tat (hX2.out 0))
                  have y0 := u2.out.c0
                  have y1 := u2.out.c1
                  obtain ⟨P, hP⟩ : ∃ P, v1.heap.size = P := ⟨_, rfl⟩
                  rw [hP] at s2 ta ⊢
                  replace hP := Lib.hid hP
                  have C23 := Lib.hid (turn_c P 0 (X 0) (hX1.out 0).not26 V2 ta.out)
                  have a0 : V2.cell? ⟨P, 0, none⟩ = some (.pointer none) := by simpa using s2.out 0 _ rfl
                  have a1 : V2.cell? ⟨P, 1, none⟩ = some (.string (X 0).tx) := by simpa using s2.out 1 _ rfl
                  have a2 : V2.cell? ⟨P, 2, none⟩ = some (.int .i32 (X 0).lo) := by simpa using s2.out 2 _ rfl
                  have a3 : V2.cell? ⟨P, 3, none⟩ = some (.int .u32 (X 0).pl) := by simpa using s2.out 3 _ rfl
                  have a4 : V2.cell? ⟨P, 4, none⟩ = some (.int .u16 (X 0).uo) := by simpa using s2.out 4 _ rfl
                  have a5 : V2.cell? ⟨P, 5, none⟩ = some (.int .u8 (X 0).kd) := by simpa using s2.out 5 _ rfl
                  have a6 : V2.cell? ⟨P, 6, none⟩ = some (.int .u8 (X 0).ws) := by simpa using s2.out 6 _ rfl
                  have C25 := Lib.hid (ups_i b 0 0 rfl R n nr c hnr (mixF n X F 0) imp ⟨X 0, X 0, ⟨#[]⟩, 0, (n : Int) - 1, false⟩ (Dk 0) (Dk 1) (Lk 0) (Lk 1) V2 (hL.out.trk.after B2.out) (by omega) (hL.out.rul.after B2.out) hn HbR.out ((HU.out 0 (by omega)).cg (by unfold mixF; rw [if_neg (by omega)])))
                  go_wp2_with (first | (go_at_call 23; (with_reducible refine C23.out.mono ?_); rintro e wz ⟨rfl, rfl⟩) | (go_at_call 25; (with_reducible refine C25.out.mono ?_); rintro e V3 ⟨rfl, t3, r3, o3⟩; replace t3 := Lib.hid t3; replace r3 := Lib.hid r3; replace o3 := Lib.hid o3))
                  go_roundw
                  case rel => exact ⟨1, by omega, by go_num, hL.out.step B2.out t3.out r3.out o3.out⟩
                  case measure => simp [intOf]
                · have Xi := ix80_1 X
                  go_upto_region 33 with fail
                  refine wp_gen (fun V2 hV2 => ?_)
                  have B2 : Hid (Below v1.heap.size v1 V2) := Lib.hid (by rw [hV2]; exact ba _ _)
                  have s2 : Hid (Seg V2 v1.heap.size 0 (tkL (X 1))) := Lib.hid (by rw [hV2]; exact Seg.new v1 (tkL (X 1)) 32)
                  clear hV2 Xi
                  have u2 : Hid (UC V2 U) := Lib.hid (u1.out.after B2.out)
                  have ta := Lib.hid (s2.out.tat (hX2.out 1))
                  have y0 := u2.out.c0
                  have y1 := u2.out.c1
                  obtain ⟨P, hP⟩ : ∃ P, v1.heap.size = P := ⟨_, rfl⟩
                  rw [hP] at s2 ta ⊢
                  replace hP := Lib.hid hP
                  have C23 := Lib.hid (turn_c P 0 (X 1) (hX1.out 1).not26 V2 ta.out)
                  have a0 : V2.cell? ⟨P, 0, none⟩ = some (.pointer none) := by simpa using s2.out 0 _ rfl
                  have a1 : V2.cell? ⟨P, 1, none⟩ = some (.string (X 1).tx) := by simpa using s2.out 1 _ rfl
                  have a2 : V2.cell? ⟨P, 2, none⟩ = some (.int .i32 (X 1).lo) := by simpa using s2.out 2 _ rfl
                  have a3 : V2.cell? ⟨P, 3, none⟩ = some (.int .u32 (X 1).pl) := by simpa using s2.out 3 _ rfl
                  have a4 : V2.cell? ⟨P, 4, none⟩ = some (.int .u16 (X 1).uo) := by simpa using s2.out 4 _ rfl
                  have a5 : V2.cell? ⟨P, 5, none⟩ = some (.int .u8 (X 1).kd) := by simpa using s2.out 5 _ rfl
                  have a6 : V2.cell? ⟨P, 6, none⟩ = some (.int .u8 (X 1).ws) := by simpa using s2.out 6 _ rfl
                  have C25 := Lib.hid (ups_i b 1 1 rfl R n nr c hnr (mixF n X F 1) imp ⟨X 1, X 1, ⟨#[]⟩, 0, (n : Int) - 1, false⟩ (Dk 1) (Dk 2) (Lk 1) (Lk 2) V2 (hL.out.trk.after B2.out) (by omega) (hL.out.rul.after B2.out) hn HbR.out ((HU.out 1 (by omega)).cg (by unfold mixF; rw [if_neg (by omega)])))
                  go_wp2_with (first | (go_at_call 23; (with_reducible refine C23.out.mono ?_); rintro e wz ⟨rfl, rfl⟩) | (go_at_call 25; (with_reducible refine C25.out.mono ?_); rintro e V3 ⟨rfl, t3, r3, o3⟩; replace t3 := Lib.hid t3; replace r3 := Lib.hid r3; replace o3 := Lib.hid o3))
                  go_roundw
                  case rel => exact ⟨2, by omega, by go_num, hL.out.step B2.out t3.out r3.out o3.out⟩
                  case measure => simp [intOf]
                · have Xi := ix80_2 X
                  go_upto_region 33 with fail
                  refine wp_gen (fun V2 hV2 => ?_)
                  have B2 : Hid (Below v1.heap.size v1 V2) := Lib.hid (by rw [hV2]; exact ba _ _)
                  have s2 : Hid (Seg V2 v1.heap.size 0 (tkL (X 2))) := Lib.hid (by rw [hV2]; exact Seg.new v1 (tkL (X 2)) 32)
                  clear hV2 Xi
                  have u2 : Hid (UC V2 U) := Lib.hid (u1.out.after B2.out)
                  have ta := Lib.hid (s2.out.tat (hX2.out 2))
                  have y0 := u2.out.c0
                  have y1 := u2.out.c1
                  obtain ⟨P, hP⟩ : ∃ P, v1.heap.size = P := ⟨_, rfl⟩
                  rw [hP] at s2 ta ⊢
                  replace hP := Lib.hid hP
                  have C23 := Lib.hid (turn_c P 0 (X 2) (hX1.out 2).not26 V2 ta.out)
                  have a0 : V2.cell? ⟨P, 0, none⟩ = some (.pointer none) := by simpa using s2.out 0 _ rfl
                  have a1 : V2.cell? ⟨P, 1, none⟩ = some (.string (X 2).tx) := by simpa using s2.out 1 _ rfl
                  have a2 : V2.cell? ⟨P, 2, none⟩ = some (.int .i32 (X 2).lo) := by simpa using s2.out 2 _ rfl
                  have a3 : V2.cell? ⟨P, 3, none⟩ = some (.int .u32 (X 2).pl) := by simpa using s2.out 3 _ rfl
                  have a4 : V2.cell? ⟨P, 4, none⟩ = some (.int .u16 (X 2).uo) := by simpa using s2.out 4 _ rfl
                  have a5 : V2.cell? ⟨P, 5, none⟩ = some (.int .u8 (X 2).kd) := by simpa using s2.out 5 _ rfl
                  have a6 : V2.cell? ⟨P, 6, none⟩ = some (.int .u8 (X 2).ws) := by simpa using s2.out 6 _ rfl
                  have C25 := Lib.hid (ups_i b 2 2 rfl R n nr c hnr (mixF n X F 2) imp ⟨X 2, X 2, ⟨#[]⟩, 0, (n : Int) - 1, false⟩ (Dk 2) (Dk 3) (Lk 2) (Lk 3) V2 (hL.out.trk.after B2.out) (by omega) (hL.out.rul.after B2.out) hn HbR.out ((HU.out 2 (by omega)).cg (by unfold mixF; rw [if_neg (by omega)])))
                  go_wp2_with (first | (go_at_call 23; (with_reducible refine C23.out.mono ?_); rintro e wz ⟨rfl, rfl⟩) | (go_at_call 25; (with_reducible refine C25.out.mono ?_); rintro e V3 ⟨rfl, t3, r3, o3⟩; replace t3 := Lib.hid t3; replace r3 := Lib.hid r3; replace o3 := Lib.hid o3))
                  go_roundw
                  case rel => exact ⟨3, by omega, by go_num, hL.out.step B2.out t3.out r3.out o3.out⟩
                  case measure => simp [intOf]
                · have Xi := ix80_3 X
                  go_upto_region 33 with fail
                  refine wp_gen (fun V2 hV2 => ?_)
                  have B2 : Hid (Below v1.heap.size v1 V2) := Lib.hid (by rw [hV2]; exact ba _ _)
                  have s2 : Hid (Seg V2 v1.heap.size 0 (tkL (X 3))) := Lib.hid (by rw [hV2]; exact Seg.new v1 (tkL (X 3)) 32)
                  clear hV2 Xi
                  have u2 : Hid (UC V2 U) := Lib.hid (u1.out.after B2.out)
                  have ta := Lib.hid (s2.out.tat (hX2.out 3))
                  have y0 := u2.out.c0
                  have y1 := u2.out.c1
                  obtain ⟨P, hP⟩ : ∃ P, v1.heap.size = P := ⟨_, rfl⟩
                  rw [hP] at s2 ta ⊢
                  replace hP := Lib.hid hP
                  have C23 := Lib.hid (turn_c P 0 (X 3) (hX1.out 3).not26 V2 ta.out)
                  have a0 : V2.cell? ⟨P, 0, none⟩ = some (.pointer none) := by simpa using s2.out 0 _ rfl
                  have a1 : V2.cell? ⟨P, 1, none⟩ = some (.string (X 3).tx) := by simpa using s2.out 1 _ rfl
                  have a2 : V2.cell? ⟨P, 2, none⟩ = some (.int .i32 (X 3).lo) := by simpa using s2.out 2 _ rfl
                  have a3 : V2.cell? ⟨P, 3, none⟩ = some (.int .u32 (X 3).pl) := by simpa using s2.out 3 _ rfl
                  have a4 : V2.cell? ⟨P, 4, none⟩ = some (.int .u16 (X 3).uo) := by simpa using s2.out 4 _ rfl
                  have a5 : V2.cell? ⟨P, 5, none⟩ = some (.int .u8 (X 3).kd) := by simpa using s2.out 5 _ rfl
                  have a6 : V2.cell? ⟨P, 6, none⟩ = some (.int .u8 (X 3).ws) := by simpa using s2.out 6 _ rfl
                  have C25 := Lib.hid (ups_i b 3 3 rfl R n nr c hnr (mixF n X F 3) imp ⟨X 3, X 3, ⟨#[]⟩, 0, (n : Int) - 1, false⟩ (Dk 3) (Dk 4) (Lk 3) (Lk 4) V2 (hL.out.trk.after B2.out) (by omega) (hL.out.rul.after B2.out) hn HbR.out ((HU.out 3 (by omega)).cg (by unfold mixF; rw [if_neg (by omega)])))
                  go_wp2_with (first | (go_at_call 23; (with_reducible refine C23.out.mono ?_); rintro e wz ⟨rfl, rfl⟩) | (go_at_call 25; (with_reducible refine C25.out.mono ?_); rintro e V3 ⟨rfl, t3, r3, o3⟩; replace t3 := Lib.hid t3; replace r3 := Lib.hid r3; replace o3 := Lib.hid o3))
                  go_roundw
                  case rel => exact ⟨4, by omega, by go_num, hL.out.step B2.out t3.out r3.out o3.out⟩
                  case measure => simp [intOf]
                · have D10 : Hid (Seg v1 Dd 0 (dcL kt (.slice (some ⟨T, 0, none⟩) N cc) lo len key imp)) := Lib.hid (D9.out.only hL.out.only (by have h1 := HbD.out; have h2 := HDR.out; omega))
                  have e2 : v1.cell? ⟨Dd, 2, none⟩ = some (.int .i32 lo) := by simpa using D10.out 2 _ rfl
                  have e3 : v1.cell? ⟨Dd, 3, none⟩ = some (.int .i32 len) := by simpa using D10.out 3 _ rfl
                  have t4 : Hid (Trk v1 b (fun k => ⟨X k, X k, ⟨#[]⟩, 0, (n : Int) - 1, false⟩) imp) := Lib.hid (hL.out.trk.cg (fun k hk => by unfold mixF; rw [if_pos hk]))
                  have O4 : Hid (Only (fun z => z = b ∨ z = R) w v1) := Lib.hid (o9.out.trans hL.out.only)
                  have C26 := Lib.hid (hC.out v1 t4.out hL.out.rul O4.out)
                  go_wp2_with (go_at_call 26; (with_reducible refine C26.out.mono ?_); intro e w7 hq; obtain rfl := hQ.out _ _ _ hq; replace hq := Lib.hid hq)
                  exact bodyPost_end (v := .tuple #[]) (by simp [results, Tryd.results18, go_sem]) rfl ⟨v1, ⟨by rw [← hX.out]; exact t4.out, hL.out.rul, O4.out⟩, hq.out⟩
end Go.Proofs.YthdogpahkglaoaaDoor

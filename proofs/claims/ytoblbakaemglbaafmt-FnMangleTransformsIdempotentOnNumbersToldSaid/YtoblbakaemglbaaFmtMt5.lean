/- FnMangleTransformsIdempotentOnNumbers: zzCopyTokens, zzEqualTokens. -/
import Derived.Test.YtoblbakaemglbaaFmtMt4
set_option linter.unusedVariables false
set_option linter.unusedSimpArgs false
namespace Go.Proofs.YtoblbakaemglbaaFmt
open Go.RowKit
section
variable {P : Program} {ops : Array Oper} {C : World → Prop}
theorem quiet_no {Q : Act → Prop} {a : Act} {o : Oper} {rest : List Oper} (hw : Region.wanted o (yielded ops a.tmps) = false) (h : wpQuiet P ops C Q rest (a.put o.dst undef)) : wpQuiet P ops C Q (o :: rest) a := by
  unfold wpQuiet
  rw [if_neg (by rw [hw]; decide)]
  exact h
theorem quiet_val {Q : Act → Prop} {a : Act} {o : Oper} {rest : List Oper} (v : Value) (hw : Region.wanted o (yielded ops a.tmps) = true) (hr : ∀ w, C w → (execOp a.eval o).run P w = .ok (.value v) w) (h : wpQuiet P ops C Q rest (a.put o.dst v)) : wpQuiet P ops C Q (o :: rest) a := by
  unfold wpQuiet
  rw [if_pos hw]
  exact ⟨v, fun w hC => by unfold Oper.quietAt; rw [hr w hC]; exact ⟨rfl, rfl⟩, h⟩
theorem move_run {w : World} {a : Act} {o : Oper} {x : Operand} {v : Value} (ho : o.op = .move x) (hx : a.eval x = v) : (execOp a.eval o).run P w = .ok (.value v) w := by
  unfold execOp
  simp only [ho, hx, Sem.run_bind, Sem.run_pure, Result.andThen_ok]
end
/-- the copy of a row of n tokens -/
def CpP (G : Nat → Tq) (n : Nat) (w : World) (e : Ending) (w' : World) : Prop := ∃ B, e = .returned (.slice (some ⟨B, 0, none⟩) n n) ∧ (∀ j, j < n → Seg w' B (j * 7) (G j).L) ∧ w.heap.size ≤ B ∧ Below w.heap.size w w'
/-- rows being copied -/
def Cp (w : World) (B n : Nat) (G : Nat → Tq) (k : Nat) : Prop := Room w B (n * 7) ∧ ∀ j, j < k → Seg w B (j * 7) (G j).L
theorem Cp.step {w W : World} {B n k : Nat} {G : Nat → Tq} (h : Cp w B n G k) (hk : k < n) (hW : W = w.setCells B (k * 7) (G k).L) : Cp W B n G (k + 1) := by
  subst hW
  refine ⟨Room.setCells _ _ _ _ h.1, fun j hj => ?_⟩
  by_cases e : j = k
  · subst e; exact Seg.put h.1 (by show j * 7 + 7 ≤ _; omega)
  · exact (h.2 j (by omega)).far (by show j * 7 + 7 ≤ k * 7 ∨ _; omega)
theorem Cp.after {w w' : World} {B n k : Nat} {G : Nat → Tq} (h : Cp w B n G k) (hb : Below w.heap.size w w') : Cp w' B n G k := ⟨h.1.after hb, fun j hj => (h.2 j hj).after hb⟩
set_option maxRecDepth 100000 in
set_option maxHeartbeats 4000000 in
theorem copy_in (A q n cap : Nat) (G : Nat → Tq) (w : World) (hn : n ≤ 1048576) (h : ∀ j, j < n → Seg w A (q + j * 7) (G j).L) : Calls Tryf.prog 10 #[.slice (some ⟨A, q, none⟩) n cap] w (CpP G n w) := by
  have H := Lib.hid h
  have m27 := make_z (P := Tryf.prog) tkZ Tryf.underlying27 info79 n (by omega) (by omega)
  have q27 := fun W => Lib.run_eql_slice_nil (P := Tryf.prog) W 27 79 (some ⟨A, q, none⟩) n cap 0 0 Tryf.underlying27
  clear h
  go_enter Tryf.func10, Tryf.ntmps10
  go_upto_region 4 with fail
  clear m27 q27
  refine wp_gen (fun W hW => ?_)
  have h0 : Hid (Cp W w.heap.size n G 0) := Lib.hid ⟨by rw [hW]; exact Room.made _ _ _ _, fun j hj => by omega⟩
  have bW : Hid (Below w.heap.size w W) := Lib.hid (by rw [hW]; exact ba _ _)
  clear hW
  go_wp2
  go_loopw [4] (fun v wr => ∃ k : Nat, k ≤ n ∧ v = .int .i64 k ∧ Cp wr w.heap.size n G k ∧ Below w.heap.size w wr) (fun v _ => n - (intOf v).toNat)
  case atStart => exact ⟨0, by omega, rfl, h0.out, bW.out⟩
  case round =>
    clear h0 bW
    obtain ⟨k, hk, rfl, hC, hB⟩ := hrel
    obtain ⟨w1, rfl⟩ : ∃ w1 : World, w1 = wr := ⟨_, rfl⟩
    have rm := Lib.hid hC.1
    replace hC := Lib.hid hC
    replace hB := Lib.hid hB
    by_cases hlt : k < n
    · have k0 : (0 : Int) ≤ k := by omega
      have k1 : (k : Int) < n := by omega
      have s1 := Lib.hid ((H.out k hlt).after hB.out)
      have hAlt : Hid (A < w.heap.size) := Lib.hid (block_lt_of_cell (H.out k hlt 0 _ rfl))
      go_upto_region 8 with (first | ((with_reducible refine wpList_at (o := ⟨some 22, .load 79 (.tmp 21), _, _, _, _⟩) ?_); refine wpList_load_seg (op := ⟨some 22, .load 79 (.tmp 21), _, _, _, _⟩) rfl 79 (.tmp 21) rfl A (q + k * 7) rfl ((G k).L) _ Tryf.underlying79 rfl (i79 (G k)) s1.out ?_) | ((with_reducible refine wpList_at (o := ⟨none, .store 79 (.tmp 23) (.tmp 22), _, _, _, _⟩) ?_); refine wpList_store_room (op := ⟨none, .store 79 (.tmp 23) (.tmp 22), _, _, _, _⟩) rfl 79 (.tmp 23) (.tmp 22) rfl w.heap.size (k * 7) (n * 7) ((G k).L) rm.out (by show k * 7 + 7 ≤ n * 7; omega) rfl rfl (i79 (G k)) (Tq.one (G k)) ?_; intro w2 hW2; replace hW2 := Lib.hid hW2))
      have c0 : w2.cell? ⟨A, q + k * 7, none⟩ = some (.pointer none) := by
        have := s1.out 0 _ rfl
        rw [hW2.out, World.cell?_setCells_out _ _ _ _ _ (fun e _ => absurd e (by have := hAlt.out; show ¬ A = _; omega))]
        simpa using this
      go_wp2
      go_roundw
      case rel => exact ⟨k + 1, by omega, by go_num, hC.out.step hlt hW2.out, by rw [hW2.out]; exact Below.setCellsB hB.out (Nat.le_refl _) _ _⟩
      case measure => simp [intOf]; omega
    · obtain rfl : n = k := by omega
      go_wp2
      go_ret
      exact ⟨_, rfl, hC.out.2, Nat.le_refl _, hB.out⟩
theorem i79k (C : Nat) (nm : ByteArray) : (Tryf.prog.info? 79).map (·.size) = some (tokL C nm).length := by show _ = some 7; kernel_rfl
theorem tokL.one (C : Nat) (nm : ByteArray) : ∀ v ∈ tokL C nm, v.oneCell' = true := by intro v hv; simp [tokL] at hv; rcases hv with rfl | rfl | rfl | rfl | rfl | rfl | rfl <;> rfl
/-- the copy of the one token -/
def CtP (nm : ByteArray) (G : Nat → Tq) (o n : Nat) (w : World) (e : Ending) (w' : World) : Prop := ∃ T C B, e = .returned (.slice (some ⟨T, 0, none⟩) 1 1) ∧ Seg w' T 0 (tokL C nm) ∧ w'.cell? ⟨C, 0, none⟩ = some (.slice (some ⟨B, 0, none⟩) n n) ∧ (∀ j, j < n → Seg w' B (j * 7) (G (o + j)).L) ∧ Below w.heap.size w w' ∧ w.heap.size ≤ T ∧ w.heap.size ≤ C ∧ w.heap.size ≤ B
theorem Seg.ptr {w W : World} {T C C2 : Nat} {nm : ByteArray} (h : Seg w T 0 (tokL C nm)) (hW : W = w.setCell ⟨T, 0, none⟩ (.pointer (some ⟨C2, 0, none⟩))) : Seg W T 0 (tokL C2 nm) := by
  subst hW
  intro j v hj
  match j, hj with
  | 0, hj => cases hj; exact cs (by simpa using h 0 _ rfl)
  | 1, hj => cases hj; rw [co (by simp)]; exact h 1 _ rfl
  | 2, hj => cases hj; rw [co (by simp)]; exact h 2 _ rfl
  | 3, hj => cases hj; rw [co (by simp)]; exact h 3 _ rfl
  | 4, hj => cases hj; rw [co (by simp)]; exact h 4 _ rfl
  | 5, hj => cases hj; rw [co (by simp)]; exact h 5 _ rfl
  | 6, hj => cases hj; rw [co (by simp)]; exact h 6 _ rfl
set_option maxRecDepth 100000 in
set_option maxHeartbeats 4000000 in
theorem copy_out (T C A N : Nat) (nm : ByteArray) (G : Nat → Tq) (o n : Nat) (w : World) (hN : N ≤ 1048576) (h : MS w T C A N nm G o n) : Calls Tryf.prog 10 #[.slice (some ⟨T, 0, none⟩) 1 1] w (CtP nm G o n w) := by
  have hT := Lib.hid h.tok
  have hCh := Lib.hid h.ch
  have hle := h.le
  have harr := Lib.hid h.arr
  have hTlt : Hid (T < w.heap.size) := Lib.hid (block_lt_of_cell (h.tok 0 _ rfl))
  have m27 := make_z (P := Tryf.prog) tkZ Tryf.underlying27 info79 1 (by omega) (by omega)
  have q27 := fun W => Lib.run_eql_slice_nil (P := Tryf.prog) W 27 79 (some ⟨T, 0, none⟩) 1 1 0 0 Tryf.underlying27
  simp only [Nat.one_mul, Int.natCast_one] at m27
  have m27' : ∀ W : World, (Instr.makeSlice 27 (.int .i64 1) (.int .i64 1)).run Tryf.prog W = .ok (.slice (some ⟨W.heap.size, 0, none⟩) 1 1) (W.alloc (.cells (madeCells tkZ 7) 79)) := m27
  clear h m27
  go_enter Tryf.func10, Tryf.ntmps10
  go_upto_region 4 with fail
  clear m27' q27
  refine wp_gen (fun W hW => ?_)
  have rm := Lib.hid (by rw [hW]; exact Room.made _ _ _ _ : Room W w.heap.size 7)
  have bW : Hid (Below w.heap.size w W) := Lib.hid (by rw [hW]; exact ba _ _)
  have zW : Hid (w.heap.size < W.heap.size) := Lib.hid (by rw [hW]; simp [go_sem])
  clear hW
  go_wp2
  go_loopw [4] (fun v wr => (v = .int .i64 0 ∧ W = wr) ∨ (v = .int .i64 1 ∧ CtP nm G o n w (.returned (.slice (some ⟨w.heap.size, 0, none⟩) 1 1)) wr)) (fun v _ => 1 - (intOf v).toNat)
  case atStart => exact .inl ⟨rfl, rfl⟩
  case round =>
    rcases hrel with ⟨rfl, rfl⟩ | ⟨rfl, hE⟩
    · have s1 := Lib.hid (hT.out.after bW.out)
      go_upto_region 8 with (first | ((with_reducible refine wpList_at (o := ⟨some 22, .load 79 (.tmp 21), _, _, _, _⟩) ?_); refine wpList_load_seg (op := ⟨some 22, .load 79 (.tmp 21), _, _, _, _⟩) rfl 79 (.tmp 21) rfl T (0) rfl (tokL C nm) _ Tryf.underlying79 rfl (i79k C nm) s1.out ?_) | ((with_reducible refine wpList_at (o := ⟨none, .store 79 (.tmp 23) (.tmp 22), _, _, _, _⟩) ?_); refine wpList_store_room (op := ⟨none, .store 79 (.tmp 23) (.tmp 22), _, _, _, _⟩) rfl 79 (.tmp 23) (.tmp 22) rfl w.heap.size (0) (7) (tokL C nm) rm.out (by show 0 + 7 ≤ 7; omega) rfl rfl (i79k C nm) (tokL.one C nm) ?_; intro w2 hW2; replace hW2 := Lib.hid hW2))
      have bW2 : Hid (Below w.heap.size w w2) := Lib.hid (by rw [hW2.out]; exact Below.setCellsB bW.out (Nat.le_refl _) _ _)
      have z2 : Hid (w.heap.size < w2.heap.size) := Lib.hid (by rw [hW2.out, setCells_size]; exact zW.out)
      have s2 := Lib.hid (hT.out.after bW2.out)
      have t2 : Hid (Seg w2 w.heap.size 0 (tokL C nm)) := Lib.hid (by rw [hW2.out]; exact Seg.put rm.out (by show 0 + 7 ≤ 7; omega))
      have c0 : w2.cell? ⟨T, 0, none⟩ = some (.pointer (some ⟨C, 0, none⟩)) := by simpa using s2.out 0 _ rfl
      have c1 := ac bW2.out hCh.out
      have C10 := Lib.hid (copy_in A (o * 7) n (N - o : Nat) (fun j => G (o + j)) w2 (by omega) (fun j hj => by
        have := (harr.out (o + j) (by omega)).after bW2.out
        rw [Nat.add_mul] at this
        exact this))
      go_upto_region 10 with (go_at_call 10; (with_reducible refine C10.out.mono ?_); rintro e w3 ⟨B, rfl, hB1, hB2, b3⟩; replace hB1 := Lib.hid hB1; replace b3 := Lib.hid b3)
      refine wp_gen (fun w4 hW => ?_)
      have b4 : Hid (Below w2.heap.size w2 w4) := Lib.hid (by rw [hW]; exact b3.out.trans ((ba _ _).mono b3.out.size))
      have c2 : w4.cell? ⟨w3.heap.size, 0, none⟩ = some (.slice (some ⟨B, 0, none⟩) n n) := by rw [hW]; simp [go_sem]
      have hB4 : Hid (∀ j, j < n → Seg w4 B (j * 7) (G (o + j)).L) := Lib.hid (fun j hj => by rw [hW]; exact (hB1.out j hj).after (ba _ _))
      have z34 : Hid (w3.heap.size < w4.heap.size) := Lib.hid (by rw [hW]; simp [go_sem])
      have z23 := b3.out.size
      clear hW C10 c1 c0 s1 s2
      have t4 := Lib.hid (t2.out.after b4.out)
      have c0 : w4.cell? ⟨w.heap.size, 0, none⟩ = some (.pointer (some ⟨C, 0, none⟩)) := by simpa using t4.out 0 _ rfl
      have f0 : w4.frozen? ⟨w.heap.size, 0, none⟩ = false := by
        have r2 : Room w2 w.heap.size 7 := by rw [hW2.out]; exact Room.setCells _ _ _ _ rm.out
        obtain ⟨u, -, hf⟩ := (r2.after b4.out) 0 (by omega)
        exact hf
      go_wp2
      go_roundw
      case rel => exact .inr ⟨rfl, w.heap.size, w3.heap.size, B, rfl, t4.out.ptr rfl, by rw [co (by have := z2.out; intro q; injection q; omega)]; exact c2, fun j hj => by
        intro i v hi
        rw [co (by have := z2.out; intro q; injection q; omega)]
        exact hB4.out j hj i v hi, (bW2.out.trans (b4.out.mono bW2.out.size)).setCell (Nat.le_refl _) _, Nat.le_refl _, by have := bW2.out.size; omega, by have := bW2.out.size; omega⟩
      case measure => simp [intOf]
    · replace hE := Lib.hid hE
      go_wp2
      go_ret
      exact hE.out
set_option maxRecDepth 100000 in
set_option maxHeartbeats 4000000 in
theorem eq_in (A q B r n c1 c2 : Nat) (G : Nat → Tq) (w : World) (hn : n ≤ 1048576) (h1 : ∀ j, j < n → Seg w A (q + j * 7) (G j).L) (h2 : ∀ j, j < n → Seg w B (r + j * 7) (G j).L) : Calls Tryf.prog 11 #[.slice (some ⟨A, q, none⟩) n c1, .slice (some ⟨B, r, none⟩) n c2] w (Gv (.bool true) w) := by
  have H1 := Lib.hid h1
  have H2 := Lib.hid h2
  clear h1 h2
  go_enter Tryf.func11, Tryf.ntmps11
  go_wp2
  go_loopw [5] (fun v wr => ∃ k : Nat, k ≤ n ∧ v = .int .i64 k ∧ Below w.heap.size w wr) (fun v _ => n - (intOf v).toNat)
  case atStart => exact ⟨0, by omega, rfl, Below.refl _ _⟩
  case round =>
    obtain ⟨k, hk, rfl, hB⟩ := hrel
    obtain ⟨w1, rfl⟩ : ∃ w1 : World, w1 = wr := ⟨_, rfl⟩
    replace hB := Lib.hid hB
    by_cases hlt : k < n
    · have k0 : (0 : Int) ≤ k := by omega
      have k1 : (k : Int) < n := by omega
      have s1 := (H1.out k hlt).after hB.out
      have s2 := (H2.out k hlt).after hB.out
      have a0 : w1.cell? ⟨A, q + k * 7, none⟩ = some (.pointer none) := by simpa using s1 0 _ rfl
      have a1 : w1.cell? ⟨A, q + k * 7 + 1, none⟩ = some (.string (G k).tx) := by simpa using s1 1 _ rfl
      have a5 : w1.cell? ⟨A, q + k * 7 + 5, none⟩ = some (.int .u8 (G k).kd) := by simpa using s1 5 _ rfl
      have a6 : w1.cell? ⟨A, q + k * 7 + 6, none⟩ = some (.int .u8 (G k).ws) := by simpa using s1 6 _ rfl
      have b0 : w1.cell? ⟨B, r + k * 7, none⟩ = some (.pointer none) := by simpa using s2 0 _ rfl
      have b1 : w1.cell? ⟨B, r + k * 7 + 1, none⟩ = some (.string (G k).tx) := by simpa using s2 1 _ rfl
      have b5 : w1.cell? ⟨B, r + k * 7 + 5, none⟩ = some (.int .u8 (G k).kd) := by simpa using s2 5 _ rfl
      have b6 : w1.cell? ⟨B, r + k * 7 + 6, none⟩ = some (.int .u8 (G k).ws) := by simpa using s2 6 _ rfl
      clear s1 s2
      go_upto_region 6 with fail
      have ya1 := fun d os => cell_regrown a1 d os
      have ya5 := fun d os => cell_regrown a5 d os
      have ya6 := fun d os => cell_regrown a6 d os
      have yb1 := fun d os => cell_regrown b1 d os
      have yb5 := fun d os => cell_regrown b5 d os
      have yb6 := fun d os => cell_regrown b6 d os
      refine drawn_tail 36 (by kernel_rfl) (by kernel_rfl) (by kernel_rfl) (fun Q hQ => ?_)
      simp only [List.take_succ_cons, List.take_zero, List.drop_succ_cons, List.drop_zero]
      repeat (quiet_step (fail))
      refine wpQuiet_nil ?_
      intro w2 hw
      have b2 : Below w1.heap.size w1 w2 := by
        obtain ⟨⟨d, os⟩, rfl⟩ := hw
        exact below_regrown _ d os
      clear hw ya1 ya5 ya6 yb1 yb5 yb6
      replace B2 := Lib.hid (hB.out.trans (b2.mono hB.out.size))
      have d0 := ac b2 a0
      have e0 := ac b2 b0
      clear b2 a0 a1 a5 a6 b0 b1 b5 b6
      go_upto_region 8 with fail
      have y0 := fun d os => cell_regrown d0 d os
      have y1 := fun d os => cell_regrown e0 d os
      refine drawn_tail 12 (by kernel_rfl) (by kernel_rfl) (by kernel_rfl) (fun Q hQ => ?_)
      simp only [List.take_succ_cons, List.take_zero, List.drop_succ_cons, List.drop_zero]
      repeat (quiet_step (fail))
      refine wpQuiet_nil ?_
      intro w3 hw
      have b3 : Below w2.heap.size w2 w3 := by
        obtain ⟨⟨d, os⟩, rfl⟩ := hw
        exact below_regrown _ d os
      clear hw y0 y1
      replace B3 := Lib.hid (B2.out.trans (b3.mono B2.out.size))
      have f0 := ac b3 d0
      clear d0 e0 b3 B2
      go_upto_region 10 with fail
      have y0 := fun d os => cell_regrown f0 d os
      refine drawn_tail 23 (by kernel_rfl) (by kernel_rfl) (by kernel_rfl) (fun Q hQ => ?_)
      simp only [List.take_succ_cons, List.take_zero, List.drop_succ_cons, List.drop_zero]
      iterate 6 quiet_step (fail)
      with_reducible refine quiet_val (.bool false) (by simp [Region.wanted, yielded]) (fun w _ => move_run rfl (by with_unfolding_all rfl)) ?_
      simp only [Act.put, List.setIfInBounds_toArray, List.set_cons_succ, List.set_cons_zero]
      iterate 16 (with_reducible refine quiet_no (by simp [Region.wanted, yielded]) ?_; simp only [Act.put, List.setIfInBounds_toArray, List.set_cons_succ, List.set_cons_zero])
      refine wpQuiet_nil ?_
      intro w4 hw
      have b4 : Below w3.heap.size w3 w4 := by
        obtain ⟨⟨d, os⟩, rfl⟩ := hw
        exact below_regrown _ d os
      clear hw y0 f0
      replace B4 := Lib.hid (B3.out.trans (b4.mono B3.out.size))
      clear b4 B3
      go_wp2
      go_roundw
      case rel => exact ⟨k + 1, by omega, by go_num, B4.out⟩
      case measure => simp [intOf]; omega
    · obtain rfl : n = k := by omega
      go_wp2
      go_ret
      exact ⟨rfl, hB.out⟩
set_option maxRecDepth 100000 in
set_option maxHeartbeats 4000000 in
theorem eq_out (T1 T2 C1 C2 A q B r n c1 c2 : Nat) (nm : ByteArray) (G : Nat → Tq) (w : World) (hn : n ≤ 1048576) (s1 : Seg w T1 0 (tokL C1 nm)) (s2 : Seg w T2 0 (tokL C2 nm)) (e1 : w.cell? ⟨C1, 0, none⟩ = some (.slice (some ⟨A, q, none⟩) n c1)) (e2 : w.cell? ⟨C2, 0, none⟩ = some (.slice (some ⟨B, r, none⟩) n c2)) (h1 : ∀ j, j < n → Seg w A (q + j * 7) (G j).L) (h2 : ∀ j, j < n → Seg w B (r + j * 7) (G j).L) : Calls Tryf.prog 11 #[.slice (some ⟨T1, 0, none⟩) 1 1, .slice (some ⟨T2, 0, none⟩) 1 1] w (Gv (.bool true) w) := by
  have H1 := Lib.hid h1
  have H2 := Lib.hid h2
  have S1 := Lib.hid s1
  have S2 := Lib.hid s2
  have E1 := Lib.hid e1
  have E2 := Lib.hid e2
  clear h1 h2 s1 s2 e1 e2
  go_enter Tryf.func11, Tryf.ntmps11
  go_wp2
  go_loopw [5] (fun v wr => (v = .int .i64 0 ∨ v = .int .i64 1) ∧ Below w.heap.size w wr) (fun v _ => 1 - (intOf v).toNat)
  case atStart => exact ⟨.inl rfl, Below.refl _ _⟩
  case round =>
    obtain ⟨hv, hB⟩ := hrel
    obtain ⟨w1, rfl⟩ : ∃ w1 : World, w1 = wr := ⟨_, rfl⟩
    replace hB := Lib.hid hB
    rcases hv with rfl | rfl
    · have s1 := S1.out.after hB.out
      have s2 := S2.out.after hB.out
      have a0 : w1.cell? ⟨T1, 0, none⟩ = some (.pointer (some ⟨C1, 0, none⟩)) := by simpa using s1 0 _ rfl
      have a1 : w1.cell? ⟨T1, 1, none⟩ = some (.string nm) := by simpa using s1 1 _ rfl
      have a5 : w1.cell? ⟨T1, 5, none⟩ = some (.int .u8 27) := by simpa using s1 5 _ rfl
      have a6 : w1.cell? ⟨T1, 6, none⟩ = some (.int .u8 0) := by simpa using s1 6 _ rfl
      have b0 : w1.cell? ⟨T2, 0, none⟩ = some (.pointer (some ⟨C2, 0, none⟩)) := by simpa using s2 0 _ rfl
      have b1 : w1.cell? ⟨T2, 1, none⟩ = some (.string nm) := by simpa using s2 1 _ rfl
      have b5 : w1.cell? ⟨T2, 5, none⟩ = some (.int .u8 27) := by simpa using s2 5 _ rfl
      have b6 : w1.cell? ⟨T2, 6, none⟩ = some (.int .u8 0) := by simpa using s2 6 _ rfl
      clear s1 s2
      go_upto_region 6 with fail
      have ya1 := fun d os => cell_regrown a1 d os
      have ya5 := fun d os => cell_regrown a5 d os
      have ya6 := fun d os => cell_regrown a6 d os
      have yb1 := fun d os => cell_regrown b1 d os
      have yb5 := fun d os => cell_regrown b5 d os
      have yb6 := fun d os => cell_regrown b6 d os
      refine drawn_tail 36 (by kernel_rfl) (by kernel_rfl) (by kernel_rfl) (fun Q hQ => ?_)
      simp only [List.take_succ_cons, List.take_zero, List.drop_succ_cons, List.drop_zero]
      repeat (quiet_step (fail))
      refine wpQuiet_nil ?_
      intro w2 hw
      have b2 : Below w1.heap.size w1 w2 := by
        obtain ⟨⟨d, os⟩, rfl⟩ := hw
        exact below_regrown _ d os
      clear hw ya1 ya5 ya6 yb1 yb5 yb6
      replace B2 := Lib.hid (hB.out.trans (b2.mono hB.out.size))
      have d0 := ac b2 a0
      have e0 := ac b2 b0
      clear b2 a0 a1 a5 a6 b0 b1 b5 b6
      go_upto_region 8 with fail
      have y0 := fun d os => cell_regrown d0 d os
      have y1 := fun d os => cell_regrown e0 d os
      refine drawn_tail 12 (by kernel_rfl) (by kernel_rfl) (by kernel_rfl) (fun Q hQ => ?_)
      simp only [List.take_succ_cons, List.take_zero, List.drop_succ_cons, List.drop_zero]
      repeat (quiet_step (fail))
      refine wpQuiet_nil ?_
      intro w3 hw
      have b3 : Below w2.heap.size w2 w3 := by
        obtain ⟨⟨d, os⟩, rfl⟩ := hw
        exact below_regrown _ d os
      clear hw y0 y1
      replace B3 := Lib.hid (B2.out.trans (b3.mono B2.out.size))
      have f0 := ac b3 d0
      have g0 := ac b3 e0
      have f1 := ac B3.out E1.out
      have g1 := ac B3.out E2.out
      have C11 := Lib.hid (fun d os => eq_in A q B r n c1 c2 G (Sort.grow (redrawn w3 d) os) hn (fun j hj => ((H1.out j hj).after B3.out).after (below_regrown _ d os)) (fun j hj => ((H2.out j hj).after B3.out).after (below_regrown _ d os)))
      clear d0 e0 b3 B2
      go_upto_region 10 with fail
      have y0 := fun d os => cell_regrown f0 d os
      have y1 := fun d os => cell_regrown g0 d os
      have y2 := fun d os => cell_regrown f1 d os
      have y3 := fun d os => cell_regrown g1 d os
      refine drawn_tail 23 (by kernel_rfl) (by kernel_rfl) (by kernel_rfl) (fun Q hQ => ?_)
      simp only [List.take_succ_cons, List.take_zero, List.drop_succ_cons, List.drop_zero]
      repeat (quiet_step (exact Calls.regrown_of (C11.out _ _)))
      refine wpQuiet_nil ?_
      intro w4 hw
      have b4 : Below w3.heap.size w3 w4 := by
        obtain ⟨⟨d, os⟩, rfl⟩ := hw
        exact below_regrown _ d os
      clear hw y0 y1 y2 y3 f0 g0 f1 g1 C11
      replace B4 := Lib.hid (B3.out.trans (b4.mono B3.out.size))
      clear b4 B3
      go_wp2
      go_roundw
      case rel => exact ⟨.inr rfl, B4.out⟩
      case measure => simp [intOf]
    · go_wp2
      go_ret
      exact ⟨rfl, hB.out⟩
end Go.Proofs.YtoblbakaemglbaaFmt

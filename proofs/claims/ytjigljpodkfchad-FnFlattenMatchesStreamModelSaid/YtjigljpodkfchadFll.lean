/- FnFlattenMatchesStreamModel: ranges of an empty compound. -/
import Derived.Test.YtjigljpodkfchadFlk
set_option linter.unusedVariables false
set_option linter.unusedSimpArgs false
namespace Go.Proofs.Ytjigljpodkfchad
open Go.RowKit
set_option maxRecDepth 100000
set_option maxHeartbeats 40000000
theorem roomN (w : World) (o : Obj) (cs : Array Value) {n : Nat} (hz : cs.size = n) (ty : TypeId) : Room ((w.alloc o).alloc (.cells cs ty)) (w.heap.size + 1) n := by
  have := Room.newN (w.alloc o) cs hz ty
  simpa using this
theorem exp39_c (T : Nat) (l : Int) (hl : l = 0 ∨ l = 1) (w : World) (hs : Seg w T 0 [.int .i32 0, .int .i32 l]) (hr : Room w T 2) : Calls Try.prog 39 #[.pointer (some ⟨T, 0, none⟩), .agg #[.int .i32 0, .int .i32 0]] w (fun e w' => (∃ v, e = .returned v) ∧ Seg w' T 0 [.int .i32 0, .int .i32 l] ∧ Room w' T 2 ∧ Kp (fun b => b = T) w w') := by
  have zT := hs.lt
  obtain ⟨f0, f1⟩ : w.frozen? ⟨T, 0, none⟩ = false ∧ w.frozen? ⟨T, 1, none⟩ = false := ⟨by obtain ⟨_, _, h⟩ := hr 0 (by omega); exact h, by obtain ⟨_, _, h⟩ := hr 1 (by omega); exact h⟩
  have x0 : w.cell? ⟨T, 0, none⟩ = some (.int .i32 0) := by simpa using hs 0 _ rfl
  have x1 : w.cell? ⟨T, 1, none⟩ = some (.int .i32 l) := by simpa using hs 1 _ rfl
  replace hs := Lib.hid hs
  replace hr := Lib.hid hr
  have Z : ∀ (w1 : World) (j : Nat) (v : Value), Kp (fun b => b = T) w w1 → Kp (fun b => b = T) w (w1.setCell ⟨T, j, none⟩ v) := fun w1 j v hh => hh.set _ _ (.inl rfl)
  rcases hl with rfl | rfl
  · go_enter Try.func39, Try.ntmps39
    go_wp2
    refine bodyPost_end (v := .tuple #[]) (by simp [results, Try.results39, go_sem]) rfl ⟨⟨_, rfl⟩, ?_, (((hr.out.setA _ _).setA _ _)).after (ba _ _), (Z _ 1 _ (Z _ 0 _ (Kp.refl w))).alloc _⟩
    exact ((hs.out.set 0 (.int .i32 0) (by simp)).set 1 (.int .i32 0) (by simp)).after (ba _ _)
  · go_enter Try.func39, Try.ntmps39
    have C44 := fun W => end44_c 1 W
    go_wp2
    refine wp_gen (fun W hW => ?_)
    have bW : Hid (Below w.heap.size w W) := Lib.hid (by rw [hW]; exact ((ba _ _).alloc (by simp) _).alloc (by simp; omega) _)
    have y0 : W.cell? ⟨w.heap.size, 0, none⟩ = some (.int .i32 0) := by rw [hW]; simp [go_sem]
    have y1 : W.cell? ⟨w.heap.size, 1, none⟩ = some (.int .i32 0) := by rw [hW]; simp [go_sem]
    clear hW
    replace x0 := fun d os => cell_regrown (ac bW.out x0) d os
    replace x1 := fun d os => cell_regrown (ac bW.out x1) d os
    have z0 := fun d os => cell_regrown y0 d os
    have z1 := fun d os => cell_regrown y1 d os
    simp only [List.getD_cons_succ, List.getD_cons_zero, List.getElem?_cons_succ, List.getElem?_cons_zero, Option.getD_some, Array.getD_eq_getD_getElem?, List.getElem?_toArray]
    refine drawn_tail 8 (by kernel_rfl) (by kernel_rfl) (by kernel_rfl) (fun Q hQ => ?_)
    simp only [List.take_succ_cons, List.take_zero, List.drop_succ_cons, List.drop_zero]
    repeat (quiet_step (fail))
    refine wpQuiet_nil ?_
    intro W6 hw
    have b6 : Hid (Below W.heap.size W W6) := Lib.hid (by
      obtain ⟨⟨d, os⟩, rfl⟩ := hw
      exact below_regrown _ d os)
    have bb : Hid (Below w.heap.size w W6) := Lib.hid (bW.out.trans (b6.out.mono bW.out.size))
    have s6 := hs.out.after bb.out
    have r6 := hr.out.after bb.out
    clear hw x0 x1 z0 z1
    have x0 : W6.cell? ⟨T, 0, none⟩ = some (.int .i32 0) := by simpa using s6 0 _ rfl
    have x1 : W6.cell? ⟨T, 1, none⟩ = some (.int .i32 1) := by simpa using s6 1 _ rfl
    replace f1 : W6.frozen? ⟨T, 1, none⟩ = false := by obtain ⟨_, _, h⟩ := r6 1 (by omega); exact h
    replace s6 := Lib.hid s6
    replace r6 := Lib.hid r6
    clear f0 y0 y1
    go_wp2
    refine bodyPost_end (v := .tuple #[]) (by simp [results, Try.results39, go_sem]) rfl ⟨⟨_, rfl⟩, s6.out.set 1 (.int .i32 1) (by simp), r6.out.setA _ _, Z _ 1 _ (Kp.of bb.out)⟩
theorem range30_c (a na : Option Addr) (n c nc : Nat) (cb : Int) (we : Bool) (hn2 : n ≤ 1048576) (w : World) (h : ∀ j, j < n → ∃ g t p, a = some ⟨g, 0, none⟩ ∧ Seg w g (j * 3) [.iface t p, .int .i32 0, .int .i32 0]) : Calls Try.prog 30 #[.agg #[.pointer none, .slice a n c, .slice na 0 nc, .int .i32 0, .int .u8 cb, .bool we]] w (fun e w' => (∃ l : Int, e = .returned (.agg #[.int .i32 0, .int .i32 l])) ∧ Below w.heap.size w w') := by
  replace h := Lib.hid h
  by_cases hcb : cb = 0
  · subst hcb
    go_enter Try.func30, Try.ntmps30
    go_upto_region 10 with fail
    refine wp_gen (fun W hW => ?_)
    have bW : Hid (Below w.heap.size w W) := Lib.hid (by rw [hW]; exact (ba _ _).alloc (by simp) _)
    have e1 : W.cell? ⟨w.heap.size, 1, none⟩ = some (.slice a n c) := by rw [hW]; simp [go_sem]
    obtain ⟨T, hT, l, hl, sT, rT⟩ : ∃ T, w.heap.size + 1 = T ∧ ∃ l : Int, (l = 0 ∨ l = 1) ∧ Seg W T 0 [.int .i32 0, .int .i32 l] ∧ Room W T 2 := by
      exact ⟨_, rfl, 0, .inl rfl, by rw [hW]; exact segN _ _ [.int .i32 0, .int .i32 0] _, by rw [hW]; exact roomN _ _ _ rfl _⟩
    clear hW
    rw [hT]
    have hTw := Lib.hid hT
    clear hT
    go_loopw [27] (fun i wr => i = .int .i64 0 ∧ W = wr) (fun _ _ => 0)
    case atStart => exact ⟨rfl, rfl⟩
    case round =>
      obtain ⟨rfl, rfl⟩ := hrel
      have zT := sT.lt
      replace sT := Lib.hid sT
      replace rT := Lib.hid rT
      by_cases hn0 : n = 0
      · subst hn0
        have t0 : W.cell? ⟨T, 0, none⟩ = some (.int .i32 0) := by simpa using sT.out 0 _ rfl
        have t1 : W.cell? ⟨T, 1, none⟩ = some (.int .i32 l) := by simpa using sT.out 1 _ rfl
        go_wp2
        exact bodyPost_ret (v := .agg #[.int .i32 0, .int .i32 l]) (by simp [results, Try.results30, go_sem, t0, t1, Result.andThen]) rfl ⟨⟨l, rfl⟩, bW.out⟩
      · have hpos : 0 < n := by omega
        go_wp2
        clear e1
        go_loopw [42] (fun i wr => ∃ j, j ≤ n ∧ i = .int .i64 j ∧ Seg wr T 0 [.int .i32 0, .int .i32 l] ∧ Room wr T 2 ∧ Kp (fun b => b = T) W wr) (fun i _ => n - (intOf i).toNat)
        case atStart => exact ⟨0, by omega, rfl, sT.out, rT.out, Kp.refl _⟩
        case round =>
          obtain ⟨j, hj, rfl, sT2, rT2, k2⟩ := hrel
          obtain ⟨W2, rfl⟩ : ∃ y, y = wr := ⟨_, rfl⟩
          have z2 := k2.size
          replace sT2 := Lib.hid sT2; replace rT2 := Lib.hid rT2; replace k2 := Lib.hid k2
          have hb2 : Hid (Below w.heap.size w W2) := Lib.hid (bW.out.trans (k2.out.below (by have := bW.out.size; omega) (fun b q => by have := hTw.out; omega)))
          by_cases hlt : j < n
          · obtain ⟨g, t, p, rfl, hsg⟩ := h.out j hlt
            obtain ⟨f0, f1, f2⟩ := segs3 (hsg.after hb2.out)
            have j0 : (0 : Int) ≤ j := by omega
            have j1 : (j : Int) < n := by omega
            clear hsg
            go_upto_region 14 with fail
            refine wp_gen (fun W3 hW3 => ?_)
            have b3 : Hid (Below W2.heap.size W2 W3) := Lib.hid (by rw [hW3]; exact ba _ _)
            have e4 : W3.cell? ⟨W2.heap.size, 1, none⟩ = some (.int .i32 0) := by rw [hW3]; simp [go_sem]
            have e5 : W3.cell? ⟨W2.heap.size, 2, none⟩ = some (.int .i32 0) := by rw [hW3]; simp [go_sem]
            clear hW3 f0 f1 f2
            have hC := Lib.hid (exp39_c T l hl W3 (sT2.out.after b3.out) (rT2.out.after b3.out))
            go_wp2_with (go_at_call 39; (with_reducible refine hC.out.mono ?_); rintro e w5 ⟨⟨v5, rfl⟩, t1, t2, t3⟩; replace t1 := Lib.hid t1; replace t2 := Lib.hid t2; replace t3 := Lib.hid t3)
            have hk5 := Lib.hid ((k2.out.trans (Kp.of b3.out)).trans t3.out)
            go_roundw
            case rel =>
              exact ⟨j + 1, by omega, by go_num, t1.out, t2.out, hk5.out⟩
            case measure => simp [intOf]; omega
          · obtain rfl : j = n := by omega
            have t0 : W2.cell? ⟨T, 0, none⟩ = some (.int .i32 0) := by simpa using sT2.out 0 _ rfl
            have t1 : W2.cell? ⟨T, 1, none⟩ = some (.int .i32 l) := by simpa using sT2.out 1 _ rfl
            go_wp2
            exact bodyPost_ret (v := .agg #[.int .i32 0, .int .i32 l]) (by simp [results, Try.results30, go_sem, t0, t1, Result.andThen]) rfl ⟨⟨l, rfl⟩, hb2.out⟩
  · have q2 : (cb != 0) = true := by simp [hcb]
    clear hcb
    go_enter Try.func30, Try.ntmps30
    go_upto_region 10 with fail
    refine wp_gen (fun W hW => ?_)
    have bW : Hid (Below w.heap.size w W) := Lib.hid (by rw [hW]; exact ((ba _ _).alloc (by simp) _))
    have e1 : W.cell? ⟨w.heap.size, 1, none⟩ = some (.slice a n c) := by rw [hW]; simp [go_sem]
    obtain ⟨T, hT, l, hl, sT, rT⟩ : ∃ T, w.heap.size + 1 = T ∧ ∃ l : Int, (l = 0 ∨ l = 1) ∧ Seg W T 0 [.int .i32 0, .int .i32 l] ∧ Room W T 2 := by
      exact ⟨_, rfl, 1, .inr rfl, by rw [hW]; exact segN _ _ [.int .i32 0, .int .i32 1] _, by rw [hW]; exact roomN _ _ _ rfl _⟩
    clear hW
    rw [hT]
    have hTw := Lib.hid hT
    clear hT
    go_loopw [27] (fun i wr => i = .int .i64 0 ∧ W = wr) (fun _ _ => 0)
    case atStart => exact ⟨rfl, rfl⟩
    case round =>
      obtain ⟨rfl, rfl⟩ := hrel
      have zT := sT.lt
      replace sT := Lib.hid sT
      replace rT := Lib.hid rT
      by_cases hn0 : n = 0
      · subst hn0
        have t0 : W.cell? ⟨T, 0, none⟩ = some (.int .i32 0) := by simpa using sT.out 0 _ rfl
        have t1 : W.cell? ⟨T, 1, none⟩ = some (.int .i32 l) := by simpa using sT.out 1 _ rfl
        go_wp2
        exact bodyPost_ret (v := .agg #[.int .i32 0, .int .i32 l]) (by simp [results, Try.results30, go_sem, t0, t1, Result.andThen]) rfl ⟨⟨l, rfl⟩, bW.out⟩
      · have hpos : 0 < n := by omega
        go_wp2
        clear e1
        go_loopw [42] (fun i wr => ∃ j, j ≤ n ∧ i = .int .i64 j ∧ Seg wr T 0 [.int .i32 0, .int .i32 l] ∧ Room wr T 2 ∧ Kp (fun b => b = T) W wr) (fun i _ => n - (intOf i).toNat)
        case atStart => exact ⟨0, by omega, rfl, sT.out, rT.out, Kp.refl _⟩
        case round =>
          obtain ⟨j, hj, rfl, sT2, rT2, k2⟩ := hrel
          obtain ⟨W2, rfl⟩ : ∃ y, y = wr := ⟨_, rfl⟩
          have z2 := k2.size
          replace sT2 := Lib.hid sT2; replace rT2 := Lib.hid rT2; replace k2 := Lib.hid k2
          have hb2 : Hid (Below w.heap.size w W2) := Lib.hid (bW.out.trans (k2.out.below (by have := bW.out.size; omega) (fun b q => by have := hTw.out; omega)))
          by_cases hlt : j < n
          · obtain ⟨g, t, p, rfl, hsg⟩ := h.out j hlt
            obtain ⟨f0, f1, f2⟩ := segs3 (hsg.after hb2.out)
            have j0 : (0 : Int) ≤ j := by omega
            have j1 : (j : Int) < n := by omega
            clear hsg
            go_upto_region 14 with fail
            refine wp_gen (fun W3 hW3 => ?_)
            have b3 : Hid (Below W2.heap.size W2 W3) := Lib.hid (by rw [hW3]; exact ba _ _)
            have e4 : W3.cell? ⟨W2.heap.size, 1, none⟩ = some (.int .i32 0) := by rw [hW3]; simp [go_sem]
            have e5 : W3.cell? ⟨W2.heap.size, 2, none⟩ = some (.int .i32 0) := by rw [hW3]; simp [go_sem]
            clear hW3 f0 f1 f2
            have hC := Lib.hid (exp39_c T l hl W3 (sT2.out.after b3.out) (rT2.out.after b3.out))
            go_wp2_with (go_at_call 39; (with_reducible refine hC.out.mono ?_); rintro e w5 ⟨⟨v5, rfl⟩, t1, t2, t3⟩; replace t1 := Lib.hid t1; replace t2 := Lib.hid t2; replace t3 := Lib.hid t3)
            have hk5 := Lib.hid ((k2.out.trans (Kp.of b3.out)).trans t3.out)
            go_roundw
            case rel =>
              exact ⟨j + 1, by omega, by go_num, t1.out, t2.out, hk5.out⟩
            case measure => simp [intOf]; omega
          · obtain rfl : j = n := by omega
            have t0 : W2.cell? ⟨T, 0, none⟩ = some (.int .i32 0) := by simpa using sT2.out 0 _ rfl
            have t1 : W2.cell? ⟨T, 1, none⟩ = some (.int .i32 l) := by simpa using sT2.out 1 _ rfl
            go_wp2
            exact bodyPost_ret (v := .agg #[.int .i32 0, .int .i32 l]) (by simp [results, Try.results30, go_sem, t0, t1, Result.andThen]) rfl ⟨⟨l, rfl⟩, hb2.out⟩
end Go.Proofs.Ytjigljpodkfchad

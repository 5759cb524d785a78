/- FnMangleSide: compactTokenQuad. -/
import Derived.Test.YtgijoikmggjopaaDoorMs1
import Derived.Test.YtgijoikmggjopaaDoorST
set_option linter.unusedVariables false
set_option linter.unusedSimpArgs false
namespace Go.Proofs.YtgijoikmggjopaaDoor
open Go.RowKit
/-- how many tokens say the four -/
def kMin (a b c d : Tk) : Nat := if tkEq d b = true then (if tkEq c a = true then (if tkEq b a = true then 1 else 2) else 3) else 4
def wsF (i k : Nat) (m : Bool) : Int := (if m = false ∨ 0 < i then 1 else 0) + (if i + 1 < k then 2 else 0)
def pick4 (a b c d : Tk) (i : Nat) : Tk := if i = 0 then a else if i = 1 then b else if i = 2 then c else d
def QuadP (a b c d : Tk) (m : Bool) (w : World) (e : Ending) (w' : World) : Prop := ∃ T, e = .returned (.slice (some ⟨T, 0, none⟩) (kMin a b c d) 4) ∧ w.heap.size ≤ T ∧ T < w'.heap.size ∧ (∀ i, i < kMin a b c d → TAt w' T (i * 7) { pick4 a b c d i with ws := wsF i (kMin a b c d) m }) ∧ Room w' T 28 ∧ Below w.heap.size w w'
theorem Seg.new' {w0 : World} {vs : List Value} {t : TypeId} {T : Nat} (hT : w0.heap.size = T) : Seg (w0.alloc (.cells vs.toArray t)) T 0 vs := by subst hT; exact Seg.new _ _ _
theorem Room.new' {w0 : World} {z : Array Value} {t : TypeId} {T n : Nat} (hT : w0.heap.size = T) (hz : z.size = n) : Room (w0.alloc (.cells z t)) T n := by subst hT hz; exact Room.new _ _ _
/-- the loop that writes the whitespace -/
structure WsIt (w : World) (T : Nat) (F : Nat → Tk) (k : Nat) (m : Bool) (i : Nat) (wr : World) : Prop where
  tok : ∀ j, j < 4 → TAt wr T (j * 7) (if j < i then { F j with ws := wsF j k m } else F j)
  room : Room wr T 28
  below : Below w.heap.size w wr
  base : w.heap.size ≤ T
theorem WsIt.step {w wr : World} {T : Nat} {F : Nat → Tk} {k : Nat} {m : Bool} {i : Nat} (h : WsIt w T F k m i wr) (hi : i < 4) {v : Int} (hv : v = wsF i k m) : WsIt w T F k m (i + 1) (wr.setCell ⟨T, i * 7 + 6, none⟩ (.int .u8 v)) := by
  subst hv
  refine ⟨fun j hj => ?_, h.room.set _ _, h.below.setCell (by show w.heap.size ≤ T; exact h.base) _, h.base⟩
  have q := h.tok j hj
  by_cases e : j = i
  · subst e
    rw [if_neg (by omega)] at q
    rw [if_pos (by omega)]
    have ne : ∀ {x y : Nat}, x ≠ y → (⟨T, x, none⟩ : Addr) ≠ ⟨T, y, none⟩ := fun h e => h (by injection e)
    obtain ⟨c0, c1, c2, c3, c4, c5, c6⟩ := q
    exact ⟨by rw [co (ne (by omega))]; exact c0, by rw [co (ne (by omega))]; exact c1, by rw [co (ne (by omega))]; exact c2, by rw [co (ne (by omega))]; exact c3, by rw [co (ne (by omega))]; exact c4, by rw [co (ne (by omega))]; exact c5, cs c6⟩
  · have e2 : (if j < i + 1 then ({ F j with ws := wsF j k m } : Tk) else F j) = if j < i then { F j with ws := wsF j k m } else F j := by
      by_cases h1 : j < i
      · rw [if_pos h1, if_pos (by omega)]
      · rw [if_neg h1, if_neg (by omega)]
    rw [e2]
    exact q.far (.inr (by dsimp only; omega))
theorem WsIt.start {w W : World} {T : Nat} {k : Nat} {m : Bool} (xa xb xc xd : ByteArray) (la pa ua ka wa lb pb ub kb wb lc pc uc kc wc ld pd ud kd wd : Int) (s : Seg W T 0 [.pointer none, .string xa, .int .i32 la, .int .u32 pa, .int .u16 ua, .int .u8 ka, .int .u8 wa, .pointer none, .string xb, .int .i32 lb, .int .u32 pb, .int .u16 ub, .int .u8 kb, .int .u8 wb, .pointer none, .string xc, .int .i32 lc, .int .u32 pc, .int .u16 uc, .int .u8 kc, .int .u8 wc, .pointer none, .string xd, .int .i32 ld, .int .u32 pd, .int .u16 ud, .int .u8 kd, .int .u8 wd]) (hr : Room W T 28) (hb : Below w.heap.size w W) (hT : w.heap.size ≤ T) : WsIt w T (pick4 (⟨.pointer none, xa, la, pa, ua, ka, wa⟩ : Tk) (⟨.pointer none, xb, lb, pb, ub, kb, wb⟩ : Tk) (⟨.pointer none, xc, lc, pc, uc, kc, wc⟩ : Tk) (⟨.pointer none, xd, ld, pd, ud, kd, wd⟩ : Tk)) k m 0 W := by
  have s' : ∀ j v, [.pointer none, .string xa, .int .i32 la, .int .u32 pa, .int .u16 ua, .int .u8 ka, .int .u8 wa, .pointer none, .string xb, .int .i32 lb, .int .u32 pb, .int .u16 ub, .int .u8 kb, .int .u8 wb, .pointer none, .string xc, .int .i32 lc, .int .u32 pc, .int .u16 uc, .int .u8 kc, .int .u8 wc, .pointer none, .string xd, .int .i32 ld, .int .u32 pd, .int .u16 ud, .int .u8 kd, .int .u8 wd][j]? = some v → W.cell? ⟨T, j, none⟩ = some v := fun j v h => by have := s j v h; rwa [Nat.zero_add] at this
  refine ⟨fun j hj => ?_, hr, hb, hT⟩
  rw [if_neg (by omega)]
  match j, hj with
  | 0, _ => exact ⟨s' 0 _ rfl, s' 1 _ rfl, s' 2 _ rfl, s' 3 _ rfl, s' 4 _ rfl, s' 5 _ rfl, s' 6 _ rfl⟩
  | 1, _ => exact ⟨s' 7 _ rfl, s' 8 _ rfl, s' 9 _ rfl, s' 10 _ rfl, s' 11 _ rfl, s' 12 _ rfl, s' 13 _ rfl⟩
  | 2, _ => exact ⟨s' 14 _ rfl, s' 15 _ rfl, s' 16 _ rfl, s' 17 _ rfl, s' 18 _ rfl, s' 19 _ rfl, s' 20 _ rfl⟩
  | 3, _ => exact ⟨s' 21 _ rfl, s' 22 _ rfl, s' 23 _ rfl, s' 24 _ rfl, s' 25 _ rfl, s' 26 _ rfl, s' 27 _ rfl⟩
set_option maxRecDepth 100000 in
set_option maxHeartbeats 4000000 in
theorem quad_c (a b c d : Tk) (m : Bool) (ha : a.ch = .pointer none) (hb : b.ch = .pointer none) (hc : c.ch = .pointer none) (hd : d.ch = .pointer none) (w : World) :
    Calls Tryd.prog 29 #[a.val, b.val, c.val, d.val, .bool m] w (QuadP a b c d m w) := by
  have Cdb := Lib.hid (fun w => eq_c d b hd hb w)
  have Cca := Lib.hid (fun w => eq_c c a hc ha w)
  have Cba := Lib.hid (fun w => eq_c b a hb ha w)
  obtain ⟨ca, xa, la, pa, ua, ka, wa⟩ := a
  obtain ⟨cb, xb, lb, pb, ub, kb, wb⟩ := b
  obtain ⟨cc, xc, lc, pc, uc, kc, wc⟩ := c
  obtain ⟨cd, xd, ld, pd, ud, kd, wd⟩ := d
  dsimp only at ha hb hc hd
  subst ha hb hc hd
  go_enter Tryd.func29, Tryd.ntmps29
  go_upto_region 2 with fail
  refine wp_gen (fun W hW => ?_)
  have SW : Hid (Seg W (w.heap.size + 1 + 1 + 1 + 1) 0 [.pointer none, .string xa, .int .i32 la, .int .u32 pa, .int .u16 ua, .int .u8 ka, .int .u8 wa, .pointer none, .string xb, .int .i32 lb, .int .u32 pb, .int .u16 ub, .int .u8 kb, .int .u8 wb, .pointer none, .string xc, .int .i32 lc, .int .u32 pc, .int .u16 uc, .int .u8 kc, .int .u8 wc, .pointer none, .string xd, .int .i32 ld, .int .u32 pd, .int .u16 ud, .int .u8 kd, .int .u8 wd]) := Lib.hid (by rw [hW]; exact Seg.new' (by simp))
  have RW : Hid (Room W (w.heap.size + 1 + 1 + 1 + 1) 28) := Lib.hid (by rw [hW]; exact Room.new' (by simp) rfl)
  have BW : Hid (Below w.heap.size w W) := Lib.hid (by rw [hW]; exact (ba _ _).trans ((ba _ _).mono (by simp)) |>.trans ((ba _ _).mono (by simp; omega)) |>.trans ((ba _ _).mono (by simp; omega)) |>.trans ((ba _ _).mono (by simp; omega)))
  have hTb : w.heap.size ≤ w.heap.size + 1 + 1 + 1 + 1 := by omega
  clear hW
  generalize w.heap.size + 1 + 1 + 1 + 1 = T at *
  have y21 : ∀ d os, (Sort.grow (redrawn W d) os).cell? ⟨T, 21, none⟩ = some (.pointer none) := fun d os => cell_regrown (SW.out 21 _ rfl) d os
  have y22 : ∀ d os, (Sort.grow (redrawn W d) os).cell? ⟨T, 22, none⟩ = some (.string xd) := fun d os => cell_regrown (SW.out 22 _ rfl) d os
  have y23 : ∀ d os, (Sort.grow (redrawn W d) os).cell? ⟨T, 23, none⟩ = some (.int .i32 ld) := fun d os => cell_regrown (SW.out 23 _ rfl) d os
  have y24 : ∀ d os, (Sort.grow (redrawn W d) os).cell? ⟨T, 24, none⟩ = some (.int .u32 pd) := fun d os => cell_regrown (SW.out 24 _ rfl) d os
  have y25 : ∀ d os, (Sort.grow (redrawn W d) os).cell? ⟨T, 25, none⟩ = some (.int .u16 ud) := fun d os => cell_regrown (SW.out 25 _ rfl) d os
  have y26 : ∀ d os, (Sort.grow (redrawn W d) os).cell? ⟨T, 26, none⟩ = some (.int .u8 kd) := fun d os => cell_regrown (SW.out 26 _ rfl) d os
  have y27 : ∀ d os, (Sort.grow (redrawn W d) os).cell? ⟨T, 27, none⟩ = some (.int .u8 wd) := fun d os => cell_regrown (SW.out 27 _ rfl) d os
  have y7 : ∀ d os, (Sort.grow (redrawn W d) os).cell? ⟨T, 7, none⟩ = some (.pointer none) := fun d os => cell_regrown (SW.out 7 _ rfl) d os
  have y8 : ∀ d os, (Sort.grow (redrawn W d) os).cell? ⟨T, 8, none⟩ = some (.string xb) := fun d os => cell_regrown (SW.out 8 _ rfl) d os
  have y9 : ∀ d os, (Sort.grow (redrawn W d) os).cell? ⟨T, 9, none⟩ = some (.int .i32 lb) := fun d os => cell_regrown (SW.out 9 _ rfl) d os
  have y10 : ∀ d os, (Sort.grow (redrawn W d) os).cell? ⟨T, 10, none⟩ = some (.int .u32 pb) := fun d os => cell_regrown (SW.out 10 _ rfl) d os
  have y11 : ∀ d os, (Sort.grow (redrawn W d) os).cell? ⟨T, 11, none⟩ = some (.int .u16 ub) := fun d os => cell_regrown (SW.out 11 _ rfl) d os
  have y12 : ∀ d os, (Sort.grow (redrawn W d) os).cell? ⟨T, 12, none⟩ = some (.int .u8 kb) := fun d os => cell_regrown (SW.out 12 _ rfl) d os
  have y13 : ∀ d os, (Sort.grow (redrawn W d) os).cell? ⟨T, 13, none⟩ = some (.int .u8 wb) := fun d os => cell_regrown (SW.out 13 _ rfl) d os
  refine drawn_tail 6 (by kernel_rfl) (by kernel_rfl) (by kernel_rfl) (fun Q hQ => ?_)
  simp only [List.take_succ_cons, List.take_zero, List.drop_succ_cons, List.drop_zero]
  repeat (quiet_step (fail))
  refine wpQuiet_nil ?_
  intro W1q hw
  have hbq : Below W.heap.size W W1q := by
    obtain ⟨⟨d, os⟩, rfl⟩ := hw
    exact below_regrown _ d os
  replace SW := Lib.hid (SW.out.after hbq)
  replace RW := Lib.hid (RW.out.after hbq)
  replace BW := Lib.hid (BW.out.trans (hbq.mono BW.out.size))
  clear hw hbq y21 y22 y23 y24 y25 y26 y27 y7 y8 y9 y10 y11 y12 y13
  cases h1 : tkEq (⟨.pointer none, xd, ld, pd, ud, kd, wd⟩ : Tk) (⟨.pointer none, xb, lb, pb, ub, kb, wb⟩ : Tk) with
  | false =>
    have hkm : Hid (kMin (⟨.pointer none, xa, la, pa, ua, ka, wa⟩ : Tk) (⟨.pointer none, xb, lb, pb, ub, kb, wb⟩ : Tk) (⟨.pointer none, xc, lc, pc, uc, kc, wc⟩ : Tk) (⟨.pointer none, xd, ld, pd, ud, kd, wd⟩ : Tk) = 4) := Lib.hid (by unfold kMin; rw [if_neg (by rw [h1]; decide)])
    rw [h1] at Cdb
    go_upto_region 8 with (go_at_call 34; (with_reducible refine (Cdb.out _).mono ?_); rintro e W1 ⟨rfl, hbq⟩; have SW1 := Lib.hid (SW.out.after hbq); have RW1 := Lib.hid (RW.out.after hbq); have BW1 := Lib.hid (BW.out.trans (hbq.mono BW.out.size)); clear hbq SW RW BW)
    obtain ⟨F, hF⟩ : ∃ F, F = pick4 (⟨.pointer none, xa, la, pa, ua, ka, wa⟩ : Tk) (⟨.pointer none, xb, lb, pb, ub, kb, wb⟩ : Tk) (⟨.pointer none, xc, lc, pc, uc, kc, wc⟩ : Tk) (⟨.pointer none, xd, ld, pd, ud, kd, wd⟩ : Tk) := ⟨_, rfl⟩
    have H0 : Hid (WsIt w T F 4 m 0 W1) := Lib.hid (by rw [hF]; exact WsIt.start xa xb xc xd la pa ua ka wa lb pb ub kb wb lc pc uc kc wc ld pd ud kd wd SW1.out RW1.out BW1.out hTb)
    clear SW1 RW1 BW1 Cdb Cca Cba
    replace hF := Lib.hid hF
    go_wp2
    go_loopw [48] (fun v wr => ∃ i : Nat, i ≤ 4 ∧ v = .int .i64 i ∧ WsIt w T F 4 m i wr) (fun v _ => 4 - (intOf v).toNat)
    case atStart => exact ⟨0, by omega, rfl, H0.out⟩
    case round =>
      clear H0
      obtain ⟨i, hi, rfl, HI⟩ := hrel
      by_cases hlt : i < 4
      · have i0 : (0 : Int) ≤ i := by omega
        have i1 : (i : Int) < 4 := by omega
        obtain ⟨v6, q6, f6⟩ := HI.room (i * 7 + 6) (by omega)
        have HS := Lib.hid (fun v hv => HI.step (v := v) (by omega) hv)
        clear HI
        by_cases hp : 0 < i <;> by_cases hl : i + 1 < 4 <;> cases m
        all_goals try (exfalso; omega)
        all_goals
          go_wp2
          go_roundw
          case rel => exact ⟨i + 1, by omega, by go_num, HS.out _ (by unfold wsF; simp [hp, hl]; try (first | rfl | decide))⟩
          case measure => simp [intOf]; omega
      · obtain rfl : i = 4 := by omega
        have hTl : T < wr.heap.size := HI.room.lt (by omega)
        have HI' := Lib.hid HI
        clear HI
        go_wp2
        go_ret
        refine ⟨T, by rw [hkm.out]; rfl, hTb, hTl, fun j hj => ?_, HI'.out.room, HI'.out.below⟩
        rw [hkm.out] at hj ⊢
        have q := HI'.out.tok j (by omega)
        rw [if_pos hj, hF.out] at q
        exact q
  | true =>
    rw [h1] at Cdb
    go_upto_region 3 with (go_at_call 34; (with_reducible refine (Cdb.out _).mono ?_); rintro e W1 ⟨rfl, hbq⟩; have SW1 := Lib.hid (SW.out.after hbq); have RW1 := Lib.hid (RW.out.after hbq); have BW1 := Lib.hid (BW.out.trans (hbq.mono BW.out.size)); clear hbq SW RW BW)
    have y14 : ∀ d os, (Sort.grow (redrawn W1 d) os).cell? ⟨T, 14, none⟩ = some (.pointer none) := fun d os => cell_regrown (SW1.out 14 _ rfl) d os
    have y15 : ∀ d os, (Sort.grow (redrawn W1 d) os).cell? ⟨T, 15, none⟩ = some (.string xc) := fun d os => cell_regrown (SW1.out 15 _ rfl) d os
    have y16 : ∀ d os, (Sort.grow (redrawn W1 d) os).cell? ⟨T, 16, none⟩ = some (.int .i32 lc) := fun d os => cell_regrown (SW1.out 16 _ rfl) d os
    have y17 : ∀ d os, (Sort.grow (redrawn W1 d) os).cell? ⟨T, 17, none⟩ = some (.int .u32 pc) := fun d os => cell_regrown (SW1.out 17 _ rfl) d os
    have y18 : ∀ d os, (Sort.grow (redrawn W1 d) os).cell? ⟨T, 18, none⟩ = some (.int .u16 uc) := fun d os => cell_regrown (SW1.out 18 _ rfl) d os
    have y19 : ∀ d os, (Sort.grow (redrawn W1 d) os).cell? ⟨T, 19, none⟩ = some (.int .u8 kc) := fun d os => cell_regrown (SW1.out 19 _ rfl) d os
    have y20 : ∀ d os, (Sort.grow (redrawn W1 d) os).cell? ⟨T, 20, none⟩ = some (.int .u8 wc) := fun d os => cell_regrown (SW1.out 20 _ rfl) d os
    have y0 : ∀ d os, (Sort.grow (redrawn W1 d) os).cell? ⟨T, 0, none⟩ = some (.pointer none) := fun d os => cell_regrown (SW1.out 0 _ rfl) d os
    have y1 : ∀ d os, (Sort.grow (redrawn W1 d) os).cell? ⟨T, 1, none⟩ = some (.string xa) := fun d os => cell_regrown (SW1.out 1 _ rfl) d os
    have y2 : ∀ d os, (Sort.grow (redrawn W1 d) os).cell? ⟨T, 2, none⟩ = some (.int .i32 la) := fun d os => cell_regrown (SW1.out 2 _ rfl) d os
    have y3 : ∀ d os, (Sort.grow (redrawn W1 d) os).cell? ⟨T, 3, none⟩ = some (.int .u32 pa) := fun d os => cell_regrown (SW1.out 3 _ rfl) d os
    have y4 : ∀ d os, (Sort.grow (redrawn W1 d) os).cell? ⟨T, 4, none⟩ = some (.int .u16 ua) := fun d os => cell_regrown (SW1.out 4 _ rfl) d os
    have y5 : ∀ d os, (Sort.grow (redrawn W1 d) os).cell? ⟨T, 5, none⟩ = some (.int .u8 ka) := fun d os => cell_regrown (SW1.out 5 _ rfl) d os
    have y6 : ∀ d os, (Sort.grow (redrawn W1 d) os).cell? ⟨T, 6, none⟩ = some (.int .u8 wa) := fun d os => cell_regrown (SW1.out 6 _ rfl) d os
    refine drawn_tail 6 (by kernel_rfl) (by kernel_rfl) (by kernel_rfl) (fun Q hQ => ?_)
    simp only [List.take_succ_cons, List.take_zero, List.drop_succ_cons, List.drop_zero]
    repeat (quiet_step (fail))
    refine wpQuiet_nil ?_
    intro W2q hw
    have hbq : Below W1.heap.size W1 W2q := by
      obtain ⟨⟨d, os⟩, rfl⟩ := hw
      exact below_regrown _ d os
    replace SW1 := Lib.hid (SW1.out.after hbq)
    replace RW1 := Lib.hid (RW1.out.after hbq)
    replace BW1 := Lib.hid (BW1.out.trans (hbq.mono BW1.out.size))
    clear hw hbq y14 y15 y16 y17 y18 y19 y20 y0 y1 y2 y3 y4 y5 y6
    cases h2 : tkEq (⟨.pointer none, xc, lc, pc, uc, kc, wc⟩ : Tk) (⟨.pointer none, xa, la, pa, ua, ka, wa⟩ : Tk) with
    | false =>
      have hkm : Hid (kMin (⟨.pointer none, xa, la, pa, ua, ka, wa⟩ : Tk) (⟨.pointer none, xb, lb, pb, ub, kb, wb⟩ : Tk) (⟨.pointer none, xc, lc, pc, uc, kc, wc⟩ : Tk) (⟨.pointer none, xd, ld, pd, ud, kd, wd⟩ : Tk) = 3) := Lib.hid (by unfold kMin; rw [if_pos h1, if_neg (by rw [h2]; decide)])
      rw [h2] at Cca
      go_upto_region 8 with (go_at_call 34; (with_reducible refine (Cca.out _).mono ?_); rintro e W2 ⟨rfl, hbq⟩; have SW2 := Lib.hid (SW1.out.after hbq); have RW2 := Lib.hid (RW1.out.after hbq); have BW2 := Lib.hid (BW1.out.trans (hbq.mono BW1.out.size)); clear hbq SW1 RW1 BW1)
      obtain ⟨F, hF⟩ : ∃ F, F = pick4 (⟨.pointer none, xa, la, pa, ua, ka, wa⟩ : Tk) (⟨.pointer none, xb, lb, pb, ub, kb, wb⟩ : Tk) (⟨.pointer none, xc, lc, pc, uc, kc, wc⟩ : Tk) (⟨.pointer none, xd, ld, pd, ud, kd, wd⟩ : Tk) := ⟨_, rfl⟩
      have H0 : Hid (WsIt w T F 3 m 0 W2) := Lib.hid (by rw [hF]; exact WsIt.start xa xb xc xd la pa ua ka wa lb pb ub kb wb lc pc uc kc wc ld pd ud kd wd SW2.out RW2.out BW2.out hTb)
      clear SW2 RW2 BW2 Cdb Cca Cba
      replace hF := Lib.hid hF
      go_wp2
      go_loopw [48] (fun v wr => ∃ i : Nat, i ≤ 3 ∧ v = .int .i64 i ∧ WsIt w T F 3 m i wr) (fun v _ => 3 - (intOf v).toNat)
      case atStart => exact ⟨0, by omega, rfl, H0.out⟩
      case round =>
        clear H0
        obtain ⟨i, hi, rfl, HI⟩ := hrel
        by_cases hlt : i < 3
        · have i0 : (0 : Int) ≤ i := by omega
          have i1 : (i : Int) < 3 := by omega
          obtain ⟨v6, q6, f6⟩ := HI.room (i * 7 + 6) (by omega)
          have HS := Lib.hid (fun v hv => HI.step (v := v) (by omega) hv)
          clear HI
          by_cases hp : 0 < i <;> by_cases hl : i + 1 < 3 <;> cases m
          all_goals try (exfalso; omega)
          all_goals
            go_wp2
            go_roundw
            case rel => exact ⟨i + 1, by omega, by go_num, HS.out _ (by unfold wsF; simp [hp, hl]; try (first | rfl | decide))⟩
            case measure => simp [intOf]; omega
        · obtain rfl : i = 3 := by omega
          have hTl : T < wr.heap.size := HI.room.lt (by omega)
          have HI' := Lib.hid HI
          clear HI
          go_wp2
          go_ret
          refine ⟨T, by rw [hkm.out]; rfl, hTb, hTl, fun j hj => ?_, HI'.out.room, HI'.out.below⟩
          rw [hkm.out] at hj ⊢
          have q := HI'.out.tok j (by omega)
          rw [if_pos hj, hF.out] at q
          exact q
    | true =>
      rw [h2] at Cca
      go_upto_region 4 with (go_at_call 34; (with_reducible refine (Cca.out _).mono ?_); rintro e W2 ⟨rfl, hbq⟩; have SW2 := Lib.hid (SW1.out.after hbq); have RW2 := Lib.hid (RW1.out.after hbq); have BW2 := Lib.hid (BW1.out.trans (hbq.mono BW1.out.size)); clear hbq SW1 RW1 BW1)
      have y7 : ∀ d os, (Sort.grow (redrawn W2 d) os).cell? ⟨T, 7, none⟩ = some (.pointer none) := fun d os => cell_regrown (SW2.out 7 _ rfl) d os
      have y8 : ∀ d os, (Sort.grow (redrawn W2 d) os).cell? ⟨T, 8, none⟩ = some (.string xb) := fun d os => cell_regrown (SW2.out 8 _ rfl) d os
      have y9 : ∀ d os, (Sort.grow (redrawn W2 d) os).cell? ⟨T, 9, none⟩ = some (.int .i32 lb) := fun d os => cell_regrown (SW2.out 9 _ rfl) d os
      have y10 : ∀ d os, (Sort.grow (redrawn W2 d) os).cell? ⟨T, 10, none⟩ = some (.int .u32 pb) := fun d os => cell_regrown (SW2.out 10 _ rfl) d os
      have y11 : ∀ d os, (Sort.grow (redrawn W2 d) os).cell? ⟨T, 11, none⟩ = some (.int .u16 ub) := fun d os => cell_regrown (SW2.out 11 _ rfl) d os
      have y12 : ∀ d os, (Sort.grow (redrawn W2 d) os).cell? ⟨T, 12, none⟩ = some (.int .u8 kb) := fun d os => cell_regrown (SW2.out 12 _ rfl) d os
      have y13 : ∀ d os, (Sort.grow (redrawn W2 d) os).cell? ⟨T, 13, none⟩ = some (.int .u8 wb) := fun d os => cell_regrown (SW2.out 13 _ rfl) d os
      have y0 : ∀ d os, (Sort.grow (redrawn W2 d) os).cell? ⟨T, 0, none⟩ = some (.pointer none) := fun d os => cell_regrown (SW2.out 0 _ rfl) d os
      have y1 : ∀ d os, (Sort.grow (redrawn W2 d) os).cell? ⟨T, 1, none⟩ = some (.string xa) := fun d os => cell_regrown (SW2.out 1 _ rfl) d os
      have y2 : ∀ d os, (Sort.grow (redrawn W2 d) os).cell? ⟨T, 2, none⟩ = some (.int .i32 la) := fun d os => cell_regrown (SW2.out 2 _ rfl) d os
      have y3 : ∀ d os, (Sort.grow (redrawn W2 d) os).cell? ⟨T, 3, none⟩ = some (.int .u32 pa) := fun d os => cell_regrown (SW2.out 3 _ rfl) d os
      have y4 : ∀ d os, (Sort.grow (redrawn W2 d) os).cell? ⟨T, 4, none⟩ = some (.int .u16 ua) := fun d os => cell_regrown (SW2.out 4 _ rfl) d os
      have y5 : ∀ d os, (Sort.grow (redrawn W2 d) os).cell? ⟨T, 5, none⟩ = some (.int .u8 ka) := fun d os => cell_regrown (SW2.out 5 _ rfl) d os
      have y6 : ∀ d os, (Sort.grow (redrawn W2 d) os).cell? ⟨T, 6, none⟩ = some (.int .u8 wa) := fun d os => cell_regrown (SW2.out 6 _ rfl) d os
      refine drawn_tail 6 (by kernel_rfl) (by kernel_rfl) (by kernel_rfl) (fun Q hQ => ?_)
      simp only [List.take_succ_cons, List.take_zero, List.drop_succ_cons, List.drop_zero]
      repeat (quiet_step (fail))
      refine wpQuiet_nil ?_
      intro W3q hw
      have hbq : Below W2.heap.size W2 W3q := by
        obtain ⟨⟨d, os⟩, rfl⟩ := hw
        exact below_regrown _ d os
      replace SW2 := Lib.hid (SW2.out.after hbq)
      replace RW2 := Lib.hid (RW2.out.after hbq)
      replace BW2 := Lib.hid (BW2.out.trans (hbq.mono BW2.out.size))
      clear hw hbq y7 y8 y9 y10 y11 y12 y13 y0 y1 y2 y3 y4 y5 y6
      cases h3 : tkEq (⟨.pointer none, xb, lb, pb, ub, kb, wb⟩ : Tk) (⟨.pointer none, xa, la, pa, ua, ka, wa⟩ : Tk) with
      | false =>
        have hkm : Hid (kMin (⟨.pointer none, xa, la, pa, ua, ka, wa⟩ : Tk) (⟨.pointer none, xb, lb, pb, ub, kb, wb⟩ : Tk) (⟨.pointer none, xc, lc, pc, uc, kc, wc⟩ : Tk) (⟨.pointer none, xd, ld, pd, ud, kd, wd⟩ : Tk) = 2) := Lib.hid (by unfold kMin; rw [if_pos h1, if_pos h2, if_neg (by rw [h3]; decide)])
        rw [h3] at Cba
        go_upto_region 8 with (go_at_call 34; (with_reducible refine (Cba.out _).mono ?_); rintro e W3 ⟨rfl, hbq⟩; have SW3 := Lib.hid (SW2.out.after hbq); have RW3 := Lib.hid (RW2.out.after hbq); have BW3 := Lib.hid (BW2.out.trans (hbq.mono BW2.out.size)); clear hbq SW2 RW2 BW2)
        obtain ⟨F, hF⟩ : ∃ F, F = pick4 (⟨.pointer none, xa, la, pa, ua, ka, wa⟩ : Tk) (⟨.pointer none, xb, lb, pb, ub, kb, wb⟩ : Tk) (⟨.pointer none, xc, lc, pc, uc, kc, wc⟩ : Tk) (⟨.pointer none, xd, ld, pd, ud, kd, wd⟩ : Tk) := ⟨_, rfl⟩
        have H0 : Hid (WsIt w T F 2 m 0 W3) := Lib.hid (by rw [hF]; exact WsIt.start xa xb xc xd la pa ua ka wa lb pb ub kb wb lc pc uc kc wc ld pd ud kd wd SW3.out RW3.out BW3.out hTb)
        clear SW3 RW3 BW3 Cdb Cca Cba
        replace hF := Lib.hid hF
        go_wp2
        go_loopw [48] (fun v wr => ∃ i : Nat, i ≤ 2 ∧ v = .int .i64 i ∧ WsIt w T F 2 m i wr) (fun v _ => 2 - (intOf v).toNat)
        case atStart => exact ⟨0, by omega, rfl, H0.out⟩
        case round =>
          clear H0
          obtain ⟨i, hi, rfl, HI⟩ := hrel
          by_cases hlt : i < 2
          · have i0 : (0 : Int) ≤ i := by omega
            have i1 : (i : Int) < 2 := by omega
            obtain ⟨v6, q6, f6⟩ := HI.room (i * 7 + 6) (by omega)
            have HS := Lib.hid (fun v hv => HI.step (v := v) (by omega) hv)
            clear HI
            by_cases hp : 0 < i <;> by_cases hl : i + 1 < 2 <;> cases m
            all_goals try (exfalso; omega)
            all_goals
              go_wp2
              go_roundw
              case rel => exact ⟨i + 1, by omega, by go_num, HS.out _ (by unfold wsF; simp [hp, hl]; try (first | rfl | decide))⟩
              case measure => simp [intOf]; omega
          · obtain rfl : i = 2 := by omega
            have hTl : T < wr.heap.size := HI.room.lt (by omega)
            have HI' := Lib.hid HI
            clear HI
            go_wp2
            go_ret
            refine ⟨T, by rw [hkm.out]; rfl, hTb, hTl, fun j hj => ?_, HI'.out.room, HI'.out.below⟩
            rw [hkm.out] at hj ⊢
            have q := HI'.out.tok j (by omega)
            rw [if_pos hj, hF.out] at q
            exact q
      | true =>
        have hkm : Hid (kMin (⟨.pointer none, xa, la, pa, ua, ka, wa⟩ : Tk) (⟨.pointer none, xb, lb, pb, ub, kb, wb⟩ : Tk) (⟨.pointer none, xc, lc, pc, uc, kc, wc⟩ : Tk) (⟨.pointer none, xd, ld, pd, ud, kd, wd⟩ : Tk) = 1) := Lib.hid (by unfold kMin; rw [if_pos h1, if_pos h2, if_pos h3])
        rw [h3] at Cba
        go_upto_region 8 with (go_at_call 34; (with_reducible refine (Cba.out _).mono ?_); rintro e W3 ⟨rfl, hbq⟩; have SW3 := Lib.hid (SW2.out.after hbq); have RW3 := Lib.hid (RW2.out.after hbq); have BW3 := Lib.hid (BW2.out.trans (hbq.mono BW2.out.size)); clear hbq SW2 RW2 BW2)
        obtain ⟨F, hF⟩ : ∃ F, F = pick4 (⟨.pointer none, xa, la, pa, ua, ka, wa⟩ : Tk) (⟨.pointer none, xb, lb, pb, ub, kb, wb⟩ : Tk) (⟨.pointer none, xc, lc, pc, uc, kc, wc⟩ : Tk) (⟨.pointer none, xd, ld, pd, ud, kd, wd⟩ : Tk) := ⟨_, rfl⟩
        have H0 : Hid (WsIt w T F 1 m 0 W3) := Lib.hid (by rw [hF]; exact WsIt.start xa xb xc xd la pa ua ka wa lb pb ub kb wb lc pc uc kc wc ld pd ud kd wd SW3.out RW3.out BW3.out hTb)
        clear SW3 RW3 BW3 Cdb Cca Cba
        replace hF := Lib.hid hF
        go_wp2
        go_loopw [48] (fun v wr => ∃ i : Nat, i ≤ 1 ∧ v = .int .i64 i ∧ WsIt w T F 1 m i wr) (fun v _ => 1 - (intOf v).toNat)
        case atStart => exact ⟨0, by omega, rfl, H0.out⟩
        case round =>
          clear H0
          obtain ⟨i, hi, rfl, HI⟩ := hrel
          by_cases hlt : i < 1
          · have i0 : (0 : Int) ≤ i := by omega
            have i1 : (i : Int) < 1 := by omega
            obtain ⟨v6, q6, f6⟩ := HI.room (i * 7 + 6) (by omega)
            have HS := Lib.hid (fun v hv => HI.step (v := v) (by omega) hv)
            clear HI
            by_cases hp : 0 < i <;> by_cases hl : i + 1 < 1 <;> cases m
            all_goals try (exfalso; omega)
            all_goals
              go_wp2
              go_roundw
              case rel => exact ⟨i + 1, by omega, by go_num, HS.out _ (by unfold wsF; simp [hp, hl]; try (first | rfl | decide))⟩
              case measure => simp [intOf]; omega
          · obtain rfl : i = 1 := by omega
            have hTl : T < wr.heap.size := HI.room.lt (by omega)
            have HI' := Lib.hid HI
            clear HI
            go_wp2
            go_ret
            refine ⟨T, by rw [hkm.out]; rfl, hTb, hTl, fun j hj => ?_, HI'.out.room, HI'.out.below⟩
            rw [hkm.out] at hj ⊢
            have q := HI'.out.tok j (by omega)
            rw [if_pos hj, hF.out] at q
            exact q
end Go.Proofs.YtgijoikmggjopaaDoor

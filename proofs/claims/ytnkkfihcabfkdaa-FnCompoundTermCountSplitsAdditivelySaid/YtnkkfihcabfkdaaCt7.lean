/- FnCompoundTermCountSplitsAdditively returns true at every argument (no condition). -/
import Derived.Test.YtnkkfihcabfkdaaCt6
set_option linter.unusedVariables false
set_option linter.unusedSimpArgs false
namespace Go.Proofs.Ytnkkfihcabfkdaa.fnCompoundTermCountSplitsAdditively
open Go.ChangeShapes Go.WideShapes Go.ChangeAt Go.RowKit
open Go.ChangeMaps (open_string shut_string)
set_option maxRecDepth 100000
set_option maxHeartbeats 4000000
theorem rds_pre {w : World} {A : Option Addr} {n k : Nat} {ls : List SubR} (h : RdS w A n ls) (hk : k ≤ n) : RdS w A k (ls.take k) := ⟨by rw [List.length_take, h.1]; omega, fun i s hi => by
  rw [List.getElem?_take] at hi
  split at hi
  · exact h.2 i s hi
  · cases hi⟩
theorem rds_suf {w : World} {g n k : Nat} {ls : List SubR} (h : RdS w (some ⟨g, 0, none⟩) n ls) (hk : k ≤ n) : RdS w (some ⟨g, k * 3, none⟩) (n - k) (ls.drop k) := ⟨by rw [List.length_drop, h.1], fun i s hi => by
  rw [List.getElem?_drop] at hi
  obtain ⟨g', o, e, hc⟩ := h.2 _ s hi
  injection e with e
  injection e with e1 e2
  subst e1 e2
  refine ⟨_, _, rfl, fun j u hj => ?_⟩
  have := hc j u hj
  rw [show 0 + (k + i) * 3 + j = k * 3 + i * 3 + j by omega] at this
  exact this⟩
theorem rds_none (w : World) (A : Option Addr) (ls : List SubR) (k : Nat) (h : ls.length = k) : RdS w A 0 (ls.drop k) := ⟨by rw [List.length_drop]; omega, fun i s hi => by rw [List.getElem?_drop, List.getElem?_eq_none (by omega)] at hi; cases hi⟩
abbrev VarP (w : World) (P : Nat) (r : CpR) : Prop := w.ownsRow P 33 6 (.slice (some ⟨P, 0, none⟩) 1 1) 1 r.cells
theorem cnt_split (ls : List SubR) (k : Nat) : cntS (ls.take k) + cntS (ls.drop k) = cntS ls := by
  unfold cntS
  rw [← List.sum_append, ← List.map_append, List.take_append_drop]
theorem main (a0 : Option Addr) (n0 : Nat) (c0 : Nat) (f0 : Nat → Int) (a1 : Int) (w : World) (w0 : ArgI .u8 w a0 n0 c0 f0) (hw : ∀ i, i < n0 → 0 ≤ f0 i ∧ f0 i ≤ 255) (ha : -9223372036854775808 ≤ a1 ∧ a1 ≤ 9223372036854775807) (hn : n0 ≤ 65536) :
    Calls Try.prog 3 #[.slice a0 n0 c0, .int .i64 a1] w fun e w' => e = .returned (.bool true) ∧ Below w.heap.size w w' := by
  have Z := Lib.hid (zz4_c a0 n0 c0 a1 w (by unfold maxLen; omega))
  have C := Lib.hid (clone5_c a0 n0 c0 f0 w (by omega) w0.nil w0.row)
  clear w0
  replace hw := Lib.hid hw
  obtain ⟨ha1, ha2⟩ := ha
  go_enter Try.func3, Try.ntmps3
  go_upto_region 6 with (first | (go_at_call 4; (with_reducible refine Z.out.mono ?_); rintro e w' ⟨b, rfl, rfl⟩; cases b) | (go_at_call 5; (with_reducible refine C.out.mono ?_); rintro e w3 ⟨A, rfl, hr, hlt, hb⟩; replace hr := Lib.hid hr; replace hlt := Lib.hid hlt; replace hb := Lib.hid hb))
  any_goals (go_ret; exact ⟨rfl, Below.refl _ _⟩)
  clear Z C
  have D6 : Hid (∀ W, W = w3.alloc (.cells #[.slice A n0 n0, .int .i64 0] 37) → Calls Try.prog 6 #[.pointer (some ⟨w3.heap.size, 0, none⟩)] W (Top2 W w3.heap.size n0 0)) := Lib.hid (fun W hW => by
    have hbW : Below w3.heap.size w3 W := by rw [hW]; exact ba _ _
    refine top6_c A n0 n0 f0 w3.heap.size 0 W hn (by omega) ⟨hr.out.after hbW, hw.out, fun x hx => ?_, fun x hx => ?_⟩ ⟨?_, ?_, ?_⟩
    · have := (hlt.out x hx).2; omega
    · have := (hlt.out x hx).2; have := hbW.size; omega
    · rw [hW]; simp [go_sem]
    · rw [hW]; simp [go_sem]
    · rw [hW]; simp [go_sem])
  go_upto_region 7 with (go_at_call 6; (with_reducible refine (D6.out _ rfl).mono ?_); rintro e w4 ⟨a, m, c, ls, rfl, hO, hs, hc, hl, hk⟩; replace hO := Lib.hid hO; replace hs := Lib.hid hs; replace hk := Lib.hid hk)
  refine wp_gen (fun W hW => ?_)
  have hbW : Below w4.heap.size w4 W := by rw [hW]; exact ba _ _
  have hV : Hid (W.ownsRow w4.heap.size 33 6 (.slice (some ⟨w4.heap.size, 0, none⟩) 1 1) 1 (CpR.cells ⟨a, m, c, ls⟩)) := Lib.hid (by rw [hW]; exact World.ownsRow_lit _ (CpR.arr ⟨a, m, c, ls⟩) 1 (Nat.le_refl _) (by decide) rfl)
  clear hW
  have hlm := flat_n SubR.len (by omega) hO.out
  have hm : m ≤ 65536 := by omega
  have hcap : Hid (m ≤ c ∧ c ≤ 9223372036854775807) := Lib.hid (by
    obtain ⟨a2, c2, he, h1, h2⟩ := own_shape hO.out
    injection he with _ _ e3
    unfold maxLen at h2
    omega)
  have hR := Lib.hid ((RdS.of hO.out).below hbW)
  have hS := Lib.hid (fun s h => (hs.out s h).below hbW)
  have hO2 := Lib.hid (own_below hO.out hbW)
  have hcnt : Hid (cntS ls ≤ 1000000) := Lib.hid (by omega)
  have hB : Hid (Below w.heap.size w W) := Lib.hid (by
    have h1 : Kp (fun _ => False) w w3 := Kp.of hb.out
    have h2 : Kp (fun b => b = w3.heap.size) w w4 := (h1.trans' (Kp.of (S := fun b => b = w3.heap.size) (ba w3 _)) (fun b q hq => by have := hb.out.size; omega)).trans' hk.out (fun b q hq => by have := hb.out.size; omega) |>.wide (fun b q => q.elim)
    exact (h2.below (Nat.le_refl _) (fun b q => by have := hb.out.size; omega)).trans (hbW.mono h2.size))
  replace hlm := Lib.hid hlm
  clear hbW hO hs hk hb hr hlt hc hl D6
  generalize w4.heap.size = P1 at *
  have e0 := hV.out.cellAt 0 (by omega); have e1 := hV.out.cellAt 1 (by omega); have e2 := hV.out.cellAt 2 (by omega); have e3 := hV.out.cellAt 3 (by omega); have e4 := hV.out.cellAt 4 (by omega); have e5 := hV.out.cellAt 5 (by omega)
  simp only [CpR.cells, CpR.arr, List.getElem?_cons_succ, List.getElem?_cons_zero] at e0 e1 e2 e3 e4 e5
  have q1 : -((m : Int) + 1) < a1.tmod ((m : Int) + 1) := Int.lt_tmod_of_pos a1 (by omega)
  have q2 : a1.tmod ((m : Int) + 1) < (m : Int) + 1 := Int.tmod_lt_of_pos a1 (by omega)
  go_upto_if 35 with fail
  generalize a1.tmod ((m : Int) + 1) = q at *
  go_cut [8] (fun v wx => ∃ k : Nat, k ≤ m ∧ v = .int .i64 k ∧ W = wx)
  case first =>
    by_cases hq : q < 0
    · go_wp2_with fail
      go_meet
      exact ⟨(q + (m + 1)).toNat, by omega, by congr 1; omega, rfl⟩
    · go_wp2_with fail
      go_meet
      exact ⟨q.toNat, by omega, by congr 1; omega, rfl⟩
  case rest =>
    obtain ⟨k, hk, rfl, rfl⟩ := hcut
    clear q1 q2
    have hsh : (a = none ∧ m = 0 ∧ c = 0) ∨ ∃ g, a = some ⟨g, 0, none⟩ := by
      rcases hO2.out.2 with ⟨h1, h2⟩ | ⟨g, cap, cur, h1, -⟩
      · injection h1 with x1 x2 x3
        exact .inl ⟨x1, h2, x3⟩
      · injection h1 with x1 x2 x3
        exact .inr ⟨g, x1⟩
    replace hsh := Lib.hid hsh
    have k0 : (0 : Int) ≤ k := by omega
    have k1 : (k : Int) ≤ m := by omega
    have k2 : (k : Int) ≤ c := by have := hcap.out.1; omega
    have hc9 := hcap.out.2
    go_upto_region 12 with fail
    go_cut [9] (fun v wx => ∃ (A2 : Option Addr) (c2 P2 : Nat), v = .pointer (some ⟨P2, 0, none⟩) ∧ VarP wx P2 ⟨A2, k, c2, ls.take k⟩ ∧ RdS wx A2 k (ls.take k) ∧ Below W.heap.size W wx)
    case first =>
      rcases hsh.out with ⟨rfl, rfl, rfl⟩ | ⟨g, rfl⟩
      · obtain rfl : k = 0 := by omega
        go_wp2_with fail
        go_meet
        exact ⟨none, 0, _, rfl, World.ownsRow_lit _ (CpR.arr ⟨none, 0, 0, ls.take 0⟩) 1 (Nat.le_refl _) (by decide) rfl, (rds_pre hR.out (Nat.zero_le _)).below (ba _ _), ba _ _⟩
      · go_wp2_with fail
        go_meet
        exact ⟨_, _, _, rfl, World.ownsRow_lit _ (CpR.arr ⟨some ⟨g, 0, none⟩, k, c, ls.take k⟩) 1 (Nat.le_refl _) (by decide) rfl, (rds_pre hR.out hk).below (ba _ _), ba _ _⟩
    case rest =>
      obtain ⟨A2, c2, P2, rfl, hV2, hR2, hB2⟩ := hcut
      obtain ⟨W2, hw2⟩ : ∃ W2, W2 = wc := ⟨_, rfl⟩
      subst hw2
      have hR' := Lib.hid (hR.out.below hB2)
      replace hV2 := Lib.hid hV2; replace hR2 := Lib.hid hR2
      have hV1 := Lib.hid (own_below hV.out hB2)
      have hB1 := Lib.hid (hB.out.trans (hB2.mono hB.out.size))
      have hS1 := Lib.hid (fun s h => (hS.out s h).below hB2)
      have hO3 := Lib.hid (own_below hO2.out hB2)
      clear hB2 hB hS hV hR hO2 e0 e1 e2 e3 e4 e5
      go_upto_region 13 with fail
      go_cut [10] (fun v wx => ∃ (A3 : Option Addr) (c3 P3 : Nat), v = .pointer (some ⟨P3, 0, none⟩) ∧ VarP wx P3 ⟨A3, m - k, c3, ls.drop k⟩ ∧ RdS wx A3 (m - k) (ls.drop k) ∧ Below W2.heap.size W2 wx)
      case first =>
        rcases hsh.out with ⟨rfl, rfl, rfl⟩ | ⟨g, rfl⟩
        · obtain rfl : k = 0 := by omega
          go_wp2_with fail
          go_meet
          exact ⟨none, 0, _, rfl, World.ownsRow_lit _ (CpR.arr ⟨none, 0, 0, ls.drop 0⟩) 1 (Nat.le_refl _) (by decide) rfl, rds_none _ _ ls 0 hlm.out, ba _ _⟩
        · by_cases hck : c = k
          · subst hck
            obtain rfl : c = m := by have := hcap.out.1; omega
            go_wp2_with fail
            go_meet
            refine ⟨some ⟨g, 0, none⟩, 0, _, rfl, ?_, ?_, ba _ _⟩
            · rw [Nat.sub_self]; exact World.ownsRow_lit _ (CpR.arr ⟨some ⟨g, 0, none⟩, 0, 0, ls.drop c⟩) 1 (Nat.le_refl _) (by decide) rfl
            · rw [Nat.sub_self]; exact rds_none _ _ ls c hlm.out
          · go_wp2_with fail
            go_meet
            exact ⟨_, _, _, rfl, World.ownsRow_lit _ (CpR.arr ⟨some ⟨g, k * 3, none⟩, m - k, c - k, ls.drop k⟩) 1 (Nat.le_refl _) (by decide) rfl, (rds_suf hR'.out hk).below (ba _ _), ba _ _⟩
      case rest =>
        obtain ⟨A3, c3, P3, rfl, hV3, hR3, hB3⟩ := hcut
        obtain ⟨W3, hw3⟩ : ∃ W3, W3 = wc := ⟨_, rfl⟩
        subst hw3
        have hRA := Lib.hid (hR'.out.below hB3); have hRB := Lib.hid (hR2.out.below hB3); replace hR3 := Lib.hid hR3
        have hVA := Lib.hid (own_below hV1.out hB3); have hVB := Lib.hid (own_below hV2.out hB3); replace hV3 := Lib.hid hV3
        have hBB := Lib.hid (hB1.out.trans (hB3.mono hB1.out.size))
        have hSS := Lib.hid (fun s h => (hS1.out s h).below hB3)
        have hOO := Lib.hid (own_below hO3.out hB3)
        clear hB3 hB1 hS1 hV1 hV2 hR' hR2 hO3
        have hX : cntS (ls.take k) + cntS (ls.drop k) = cntS ls := cnt_split ls k
        have hcn := hcnt.out
        have DA := Lib.hid (fun w' (hb : Below W3.heap.size W3 w') => (show Calls Try.prog 7 #[.agg (CpR.arr ⟨a, m, c, ls⟩)] w' (fun e w2 => e = .returned (.int .i64 (cntS ls)) ∧ Below w'.heap.size w' w2) from comp7_c a m c ls w' (hRA.out.below hb) (fun s h => (hSS.out s h).below hb) hcn (by unfold maxLen; omega)))
        have DB := Lib.hid (fun w' (hb : Below W3.heap.size W3 w') => (show Calls Try.prog 7 #[.agg (CpR.arr ⟨A2, k, c2, ls.take k⟩)] w' (fun e w2 => e = .returned (.int .i64 (cntS (ls.take k))) ∧ Below w'.heap.size w' w2) from comp7_c A2 k c2 (ls.take k) w' (hRB.out.below hb) (fun s h => (hSS.out s (List.mem_of_mem_take h)).below hb) (by omega) (by unfold maxLen; omega)))
        have DC := Lib.hid (fun w' (hb : Below W3.heap.size W3 w') => (show Calls Try.prog 7 #[.agg (CpR.arr ⟨A3, m - k, c3, ls.drop k⟩)] w' (fun e w2 => e = .returned (.int .i64 (cntS (ls.drop k))) ∧ Below w'.heap.size w' w2) from comp7_c A3 (m - k) c3 (ls.drop k) w' (hR3.out.below hb) (fun s h => (hSS.out s (List.mem_of_mem_drop h)).below hb) (by omega) (by unfold maxLen; omega)))
        clear hRA hRB hR3
        have hXX : Hid (cntX [(⟨some ⟨0, 0, none⟩, 1, 1, [⟨a, m, c, ls⟩]⟩ : CxR)] = cntS ls) := Lib.hid (by simp [cntX, cntP])
        have e0 := hVA.out.cellAt 0 (by omega); have e1 := hVA.out.cellAt 1 (by omega); have e2 := hVA.out.cellAt 2 (by omega); have e3 := hVA.out.cellAt 3 (by omega); have e4 := hVA.out.cellAt 4 (by omega); have e5 := hVA.out.cellAt 5 (by omega)
        simp only [CpR.cells, CpR.arr, List.getElem?_cons_succ, List.getElem?_cons_zero] at e0 e1 e2 e3 e4 e5
        go_upto_region 15 with (go_at_call 7; (with_reducible refine (DA.out _ (Below.refl _ _)).mono ?_); rintro e w5 ⟨rfl, hb⟩; have hb5 := Lib.hid hb; clear hb)
        clear e0 e1 e2 e3 e4 e5 DA
        have hVB5 := Lib.hid (own_below hVB.out hb5.out); have hVC5 := Lib.hid (own_below hV3.out hb5.out); have hVA5 := Lib.hid (own_below hVA.out hb5.out)
        have e0 := hVB5.out.cellAt 0 (by omega); have e1 := hVB5.out.cellAt 1 (by omega); have e2 := hVB5.out.cellAt 2 (by omega); have e3 := hVB5.out.cellAt 3 (by omega); have e4 := hVB5.out.cellAt 4 (by omega); have e5 := hVB5.out.cellAt 5 (by omega)
        simp only [CpR.cells, CpR.arr, List.getElem?_cons_succ, List.getElem?_cons_zero] at e0 e1 e2 e3 e4 e5
        have g0 := hVC5.out.cellAt 0 (by omega); have g1 := hVC5.out.cellAt 1 (by omega); have g2 := hVC5.out.cellAt 2 (by omega); have g3 := hVC5.out.cellAt 3 (by omega); have g4 := hVC5.out.cellAt 4 (by omega); have g5 := hVC5.out.cellAt 5 (by omega)
        simp only [CpR.cells, CpR.arr, List.getElem?_cons_succ, List.getElem?_cons_zero] at g0 g1 g2 g3 g4 g5
        have qe0 := fun d os => cell_regrown e0 d os; have qe1 := fun d os => cell_regrown e1 d os; have qe2 := fun d os => cell_regrown e2 d os; have qe3 := fun d os => cell_regrown e3 d os; have qe4 := fun d os => cell_regrown e4 d os; have qe5 := fun d os => cell_regrown e5 d os
        have qg0 := fun d os => cell_regrown g0 d os; have qg1 := fun d os => cell_regrown g1 d os; have qg2 := fun d os => cell_regrown g2 d os; have qg3 := fun d os => cell_regrown g3 d os; have qg4 := fun d os => cell_regrown g4 d os; have qg5 := fun d os => cell_regrown g5 d os
        clear e0 e1 e2 e3 e4 e5 g0 g1 g2 g3 g4 g5
        have ht : ((cntS ls : Nat) : Int) = (cntS (ls.take k) : Nat) + (cntS (ls.drop k) : Nat) := by omega
        have ht2 : (((cntS ls : Nat) : Int) != (cntS (ls.take k) : Nat) + (cntS (ls.drop k) : Nat)) = false := by simp [ht]
        have ht3 : (0 : Int) ≤ (cntS (ls.take k) : Nat) := by omega
        have ht4 : (0 : Int) ≤ (cntS (ls.drop k) : Nat) := by omega
        have ht5 : ((cntS (ls.take k) : Nat) : Int) ≤ 1000000 := by omega
        have ht6 : ((cntS (ls.drop k) : Nat) : Int) ≤ 1000000 := by omega
        clear ht hX
        generalize cntS ls = X at *
        generalize cntS (ls.take k) = Y at *
        generalize cntS (ls.drop k) = Z at *
        refine drawn_tail 6 (by kernel_rfl) (by kernel_rfl) (by kernel_rfl) (fun Q hQ => ?_)
        simp only [List.take_succ_cons, List.take_zero, List.drop_succ_cons, List.drop_zero]
        repeat (quiet_step (first | (with_reducible exact Calls.regrown_of (DB.out _ (hb5.out.trans ((below_regrown _ _ _).mono hb5.out.size)))) | (with_reducible exact Calls.regrown_of (DC.out _ (hb5.out.trans ((below_regrown _ _ _).mono hb5.out.size))))))
        refine wpQuiet_nil ?_
        clear qe0 qe1 qe2 qe3 qe4 qe5 qg0 qg1 qg2 qg3 qg4 qg5
        intro W6 hw
        have hbW : Below w5.heap.size w5 W6 := by obtain ⟨⟨d, os⟩, rfl⟩ := hw; exact below_regrown _ d os
        clear hw DB DC hVB hV3 hVB5 hVC5
        have hb6 := Lib.hid (hb5.out.trans (hbW.mono hb5.out.size))
        have hVA6 := Lib.hid (own_below hVA5.out hbW)
        clear hbW hVA5 hb5 hVA
        have e0 := hVA6.out.cellAt 0 (by omega); have e1 := hVA6.out.cellAt 1 (by omega); have e2 := hVA6.out.cellAt 2 (by omega); have e3 := hVA6.out.cellAt 3 (by omega); have e4 := hVA6.out.cellAt 4 (by omega); have e5 := hVA6.out.cellAt 5 (by omega)
        simp only [CpR.cells, CpR.arr, List.getElem?_cons_succ, List.getElem?_cons_zero] at e0 e1 e2 e3 e4 e5
        go_upto_region 18 with fail
        clear e0 e1 e2 e3 e4 e5
        refine wp_gen (fun W7 hW => ?_)
        have hb67 : Below W6.heap.size W6 W7 := by rw [hW]; exact (ba _ _).alloc (by simp) _
        have hx1 : W7.ownsRow 0 33 6 (.slice (some ⟨W6.heap.size, 0, none⟩) 1 1) 1 (flat CpR.cells [⟨a, m, c, ls⟩]) := by
          rw [hW]; exact (World.ownsRow_lit W6 (CpR.arr ⟨a, m, c, ls⟩) 1 (Nat.zero_le _) (by decide) rfl).alloc _
        have hx2 : W7.ownsRow 0 41 1 (.slice (some ⟨W6.heap.size + 1, 0, none⟩) 1 1) 1 (flat CxR.cells [⟨some ⟨W6.heap.size, 0, none⟩, 1, 1, [⟨a, m, c, ls⟩]⟩]) := by
          rw [hW]
          have := World.ownsRow_lit (base := 0) (e := 41) (size := 1) (W6.alloc (.cells (CpR.arr ⟨a, m, c, ls⟩) 33)) (CxR.arr ⟨some ⟨W6.heap.size, 0, none⟩, 1, 1, [⟨a, m, c, ls⟩]⟩) 1 (Nat.zero_le _) (by decide) rfl
          simp only [World.alloc, Array.size_push] at this ⊢
          exact this
        have h37 := hb6.out.trans (hb67.mono hb6.out.size)
        have hx : XOK W7 (some ⟨W6.heap.size + 1, 0, none⟩) 1 1 [⟨some ⟨W6.heap.size, 0, none⟩, 1, 1, [⟨a, m, c, ls⟩]⟩] := by
          refine ⟨hx2, fun r hr => ?_, fun r hr p hp => ?_, fun r hr p hp s hs => ?_⟩
          · rw [List.mem_singleton] at hr; subst hr; exact hx1
          · rw [List.mem_singleton] at hr; subst hr
            rw [List.mem_singleton] at hp; subst hp
            exact own_below hOO.out h37
          · rw [List.mem_singleton] at hr; subst hr
            rw [List.mem_singleton] at hp; subst hp
            exact (hSS.out s hs).below h37
        have hcx : cntX [(⟨some ⟨W6.heap.size, 0, none⟩, 1, 1, [⟨a, m, c, ls⟩]⟩ : CxR)] = X := by
          have := hXX.out
          simp only [cntX, cntP, List.map_cons, List.map_nil, List.sum_cons, List.sum_nil] at this ⊢
          exact this
        have D8 := Lib.hid (cplx8_c _ _ _ _ W7 hx (by rw [hcx]; omega))
        rw [hcx] at D8
        have hBF := Lib.hid (hBB.out.trans (h37.mono hBB.out.size))
        clear hW hb67 hx1 hx2 hx hcx h37
        go_wp2_with (go_at_call 8; (with_reducible refine D8.out.mono ?_); rintro e w8 ⟨rfl, hb⟩; have hBG := Lib.hid (hBF.out.trans (hb.mono hBF.out.size)); clear hb)
        go_ret
        exact ⟨by simp, hBG.out⟩
theorem wf_u8 {n : Int} (h : (Lit.int .u8 n).wf = true) : 0 ≤ n ∧ n ≤ 255 := by
  have e1 : IntKind.u8.min = 0 := by decide
  have e2 : IntKind.u8.max = 255 := by decide
  simp [Lit.wf] at h; omega
theorem wf_i64 {n : Int} (h : (Lit.int .i64 n).wf = true) : -9223372036854775808 ≤ n ∧ n ≤ 9223372036854775807 := by
  have e1 : IntKind.i64.min = -9223372036854775808 := by decide
  have e2 : IntKind.i64.max = 9223372036854775807 := by decide
  simp [Lit.wf] at h; omega
theorem walk (a0 : Option Addr) (n0 : Nat) (c0 : Nat) (f0 : Nat → Int) (a1 : Int) (w : World) (w0 : ArgI .u8 w a0 n0 c0 f0) (w1 : (Lit.int .i64 a1).wf = true) :
    Calls Try.prog 3 #[.slice a0 n0 c0, .int .i64 a1] w fun e w' => e = .returned (.bool true) ∧ Below w.heap.size w w' := by
  by_cases h : n0 ≤ 65536
  · exact main a0 n0 c0 f0 a1 w w0 (fun i hi => wf_u8 (w0.wf i hi)) (wf_i64 w1) h
  · have le0 := w0.le; have mx0 := w0.max
    have Z := Lib.hid (zz4_c a0 n0 c0 a1 w (by omega))
    unfold maxLen at mx0
    clear w0 w1
    go_enter Try.func3, Try.ntmps3
    go_upto_region 5 with (go_at_call 4; (with_reducible refine Z.out.mono ?_); rintro e w' ⟨b, rfl, rfl⟩; cases b)
    all_goals (first | (go_ret; exact ⟨rfl, Below.refl _ _⟩) | (exfalso; omega))
theorem own : ownKnob Try.prog.godebug = none := by kernel_rfl
theorem laidOut : laidOutB Try.prog = true := by kernel_rfl
set_option maxRecDepth 100000 in
theorem lifted (os : Os) (started : os.Started) (H : Type) (enc : TypeId × Value → H) :
    ReturnsInHanded {} Try.checked os 3 .any (Rows.fnCompoundTermCountSplitsAdditivelySpec.pre6 enc Try.prog Try.f3 Rows.fnCompoundTermCountSplitsAdditivelyRow.domain false) (Rows.fnCompoundTermCountSplitsAdditivelySpec.post enc Try.prog Try.f3 false true false false) := by
  refine returnsInHanded_of_change (C := Try.checked) own started (by kernel_rfl) Try.func3
    (ChangeSpec.witness6 (enc := enc) (C := Try.checked) false ⟨#[], #[.slice none 0 0, .int .i64 0], []⟩ 8 (by kernel_rfl) (by kernel_rfl) (by kernel_rfl) (by kernel_rfl)) ?_
  intro W base args ds gs before hval0 hW hcnd _
  have hval : ∀ (j : Nat) t v, Try.f3.params[j]? = some t → args[j]? = some v → Value.okWide Try.prog W .any base t v := hval0
  have hW' := hW
  obtain ⟨p, q, hA0, hV, rfl, hfz, hnd⟩ := hW
  have hA : DataW.TrodAll enc Try.prog W 0 (fun _ => true) true Try.f3.params.toList args.toList ds p := hA0
  rw [Try.params3] at hA hval
  obtain ⟨v0, vs0, d0, ds0, p0, q0, hargs, rfl, rfl, h0, r0⟩ := trodAll_cons hA
  obtain ⟨v1, vs1, d1, ds1, p1, q1, rfl, rfl, rfl, h1, r1⟩ := trodAll_cons r0
  obtain ⟨rfl, rfl, rfl⟩ := trodAll_nil r1
  obtain rfl : args = #[v0, v1] := by cases args; simp_all
  obtain ⟨rfl, rfl⟩ := trodVars_none hV
  have k0 := h0
  have lt0 : ∀ x ∈ p0, x.block < W.heap.size := by obtain ⟨m, hm⟩ := k0; exact DataW.trod_lt m _ _ _ hm
  obtain ⟨a0, n0, c0, f0, rfl, w0⟩ := arg_ints Try.underlying22 Try.underlying5 (by kernel_rfl) (hval 0 22 v0 rfl rfl) h0
  obtain ⟨a1, rfl, rfl, rfl, w1⟩ := open_int Try.underlying3 (hval 1 3 v1 rfl rfl) h1
  clear hA0 hval0
  refine (walk a0 n0 c0 f0 a1 W w0 w1).mono fun e W' ⟨he, bel⟩ => ?_
  subst he
  exact ⟨_, rfl, _, _, _, [], _, [], hW', trodAll_mk1 (shut_bool Try.underlying4 _), (trodAll_cons_mk (Below.trod laidOut (by kernel_rfl) (of_decide_eq_true (by kernel_rfl)) k0 bel lt0) (trodAll_cons_mk (shut_int Try.underlying3 w1) trodAll_mk0)), rfl, bel.frame _, fun h => by cases h⟩

theorem over : Rows.fnCompoundTermCountSplitsAdditivelyRow.holds Try.pinned (OpenSpec.ofChange Rows.fnCompoundTermCountSplitsAdditivelySpec) :=
  OpenClaim.holds_of_wide 3 Try.f3 rfl rfl rfl rfl rfl rfl rfl ⟨rfl, rfl, rfl, rfl, rfl⟩ rfl rfl rfl rfl rfl (by kernel_rfl) Try.func3 (by kernel_rfl)
    (of_decide_eq_true (by kernel_rfl)) (by unfold Func.isWrapper; first | (rw [if_pos (by decide +kernel)]; kernel_rfl) | (rw [if_neg (by decide +kernel)]; exact ⟨rfl, rfl⟩))
    (fun os started H enc _ => lifted os started H enc)

theorem proved : Rows.FnCompoundTermCountSplitsAdditivelySaid :=
  over
#print axioms proved
end Go.Proofs.Ytnkkfihcabfkdaa.fnCompoundTermCountSplitsAdditively

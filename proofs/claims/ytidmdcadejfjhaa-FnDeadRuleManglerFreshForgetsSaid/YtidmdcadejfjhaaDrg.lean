/- FnDeadRuleManglerFreshForgets: equality of lists of complex selectors, of rules. -/
import Derived.Test.YtidmdcadejfjhaaDrf
set_option linter.unusedVariables false
set_option linter.unusedSimpArgs false
namespace Go.Proofs.Ytidmdcadejfjhaa
open Go.RowKit
set_option maxRecDepth 100000
set_option maxHeartbeats 4000000
theorem pick_yes {P : Program} {w : World} {a : Act} {o : Oper} {x y z : Operand} {v : Value} (ho : o.op = .pick x y z) (hx : a.eval x = .bool true) (hz : a.eval y = v) : (execOp a.eval o).run P w = .ok (.value v) w := by
  unfold execOp
  simp [ho, hx, hz, asBool]
theorem cs47_c {K : Type} [DecidableEq K] {G : (Nat → Prop) → World → SubR K → Prop} (keep : KeepG G) (HE : HEq' K G) (O O' : Nat → Prop) (a a' : Option Addr) (c c' : Nat) (ls ls' : List (CxR K)) (n n' : Nat) (hn : ls.length = n) (hn' : ls'.length = n') (q : Value) (w : World) (h : RCx G O w a ls) (h' : RCx G O' w a' ls') (hl : n ≤ maxLen) (hl' : n' ≤ maxLen) : Calls Try.prog 47 #[.slice a n c, .slice a' n' c', q] w (RetV (.bool (decide (ls.map CxR.key = ls'.map CxR.key))) w) := by
  have HT : Hid (∀ W, Below w.heap.size w W → ls.map CxR.key = ls'.map CxR.key → RetV (.bool (decide (ls.map CxR.key = ls'.map CxR.key))) w (.returned (.bool true)) W) := Lib.hid (fun W hb e => ⟨by rw [decide_eq_true]; exact e, hb⟩)
  have HF : Hid (∀ W, Below w.heap.size w W → ls.map CxR.key ≠ ls'.map CxR.key → RetV (.bool (decide (ls.map CxR.key = ls'.map CxR.key))) w (.returned (.bool false)) W) := Lib.hid (fun W hb e => ⟨by rw [decide_eq_false]; exact e, hb⟩)
  generalize RetV (.bool (decide (ls.map CxR.key = ls'.map CxR.key))) w = QQ at *
  have hG := Lib.hid h
  have hG' := Lib.hid h'
  unfold maxLen at hl hl'
  clear h h'
  replace hn := Lib.hid hn
  replace hn' := Lib.hid hn'
  go_enter Try.func47, Try.ntmps47
  by_cases hnn : n = n'
  · subst hnn
    go_wp2
    go_loopw [16] (fun i wr => ∃ k : Nat, k ≤ n ∧ i = .int .i64 k ∧ (ls.take k).map CxR.key = (ls'.take k).map CxR.key ∧ Below w.heap.size w wr) (fun i _ => n - (intOf i).toNat)
    case atStart => exact ⟨0, by omega, rfl, by simp, Below.refl _ _⟩
    case round =>
      obtain ⟨k, hk, rfl, htk, hB⟩ := hrel
      obtain ⟨Wo, rfl⟩ : ∃ y, y = wr := ⟨_, rfl⟩
      replace htk := Lib.hid htk
      replace hB := Lib.hid hB
      by_cases hlt : k < n
      · obtain ⟨cp, hcp⟩ : ∃ x, ls[k]? = some x := ⟨_, List.getElem?_eq_getElem (by rw [hn.out]; exact hlt)⟩
        obtain ⟨cp', hcp'⟩ : ∃ x, ls'[k]? = some x := ⟨_, List.getElem?_eq_getElem (by rw [hn'.out]; exact hlt)⟩
        obtain ⟨g, rfl, -, d0, hg⟩ := (RCx.keep keep hG.out (Kc.of_below hB.out) (fun _ _ q => q)) k cp hcp
        obtain ⟨g', rfl, -, f0, hg'⟩ := (RCx.keep keep hG'.out (Kc.of_below hB.out) (fun _ _ q => q)) k cp' hcp'
        have hne := Lib.hid (fun (e : CxR.key cp ≠ CxR.key cp') => map_ne (f := CxR.key) hcp hcp' e)
        have hst := Lib.hid (fun (e : CxR.key cp = CxR.key cp') => show (ls.take (k + 1)).map CxR.key = (ls'.take (k + 1)).map CxR.key by rw [mtake hcp, mtake hcp', htk.out, e])
        clear hcp hcp'
        have i0 : (0 : Int) ≤ k := by omega
        have i1 : (k : Int) < n := by omega
        replace hg := Lib.hid hg
        replace hg' := Lib.hid hg'
        go_upto_region 6 with fail
        refine wp_gen (fun W1 hW => ?_)
        have b1 : Hid (Below Wo.heap.size Wo W1) := Lib.hid (by rw [hW]; exact ba _ _)
        have n0 : W1.cell? ⟨Wo.heap.size, 0, none⟩ = some (.slice cp.a cp.ls.length cp.c) := by rw [hW]; simp [go_sem]
        clear hW d0
        replace f0 := ac b1.out f0
        have bw1 := Lib.hid (hB.out.trans (b1.out.mono hB.out.size))
        have CE : Hid (∀ d os, Calls Try.prog 42 #[.agg cp.arr, .agg cp'.arr, q] (Sort.grow (redrawn W1 d) os) (RetV (.bool (decide (CxR.key cp = CxR.key cp'))) (Sort.grow (redrawn W1 d) os))) := Lib.hid (fun d os => cx42_c keep HE O O' cp cp' q _ (GCx.keep keep _ _ _ _ _ hg.out (Kc.of_below (b1.out.trans ((below_regrown W1 d os).mono b1.out.size))) (fun _ _ q => q)) (GCx.keep keep _ _ _ _ _ hg'.out (Kc.of_below (b1.out.trans ((below_regrown W1 d os).mono b1.out.size))) (fun _ _ q => q)))
        obtain ⟨bb, hbb⟩ : ∃ y, decide (CxR.key cp = CxR.key cp') = y := ⟨_, rfl⟩
        rw [hbb] at CE
        replace hbb := Lib.hid hbb
        have x0 := fun d os => cell_regrown n0 d os
        have x2 := fun d os => cell_regrown f0 d os
        refine drawn_tail 7 (by kernel_rfl) (by kernel_rfl) (by kernel_rfl) (fun Q hQ => ?_)
        simp only [List.take_succ_cons, List.take_zero, List.drop_succ_cons, List.drop_zero]
        repeat (quiet_step (exact Calls.regrown_of (CE.out _ _)))
        refine wpQuiet_nil ?_
        intro W6 hw
        have b6 : Hid (Below W1.heap.size W1 W6) := Lib.hid (by
          obtain ⟨⟨d, os⟩, rfl⟩ := hw
          exact below_regrown _ d os)
        clear hw x0 x2
        have bw6 := Lib.hid (bw1.out.trans (b6.out.mono bw1.out.size))
        cases bb
        · have hF := HF.out W6 bw6.out (hne.out (of_decide_eq_false hbb.out))
          go_wp2
          exact hF
        · have hS := hst.out (of_decide_eq_true hbb.out)
          replace hS := Lib.hid hS
          go_wp2
          exact ⟨⟨k + 1, by omega, by go_num, hS.out, bw6.out⟩, by simp [intOf]; omega⟩
      · obtain rfl : k = n := by omega
        have hT := HT.out Wo hB.out (by
          have := htk.out
          rw [List.take_of_length_le (by rw [hn.out]; exact Nat.le_refl _), List.take_of_length_le (by rw [hn'.out]; exact Nat.le_refl _)] at this
          exact this)
        go_wp2
        exact hT
  · have t1 : ((n : Int) == (n' : Int)) = false := by simp; omega
    have hF := HF.out w (Below.refl _ _) (map_ne_len (by rw [hn.out, hn'.out]; exact hnn))
    go_wp2
    exact hF
theorem he0 : HEq' Unit G0 := fun O O' s s' q w h h' => by
  obtain ⟨st, sp, sk⟩ := s
  obtain ⟨st', sp', sk'⟩ := s'
  obtain ⟨h1, B, h2, h3⟩ := h
  have h1' := h'.1
  simp only at h1 h2 h1' h3
  subst h1 h2 h1'
  exact ⟨B, rfl, .inl ⟨rfl, eq63_same O O' _ _ q w ⟨rfl, B, rfl, h3⟩ h'⟩⟩
theorem eq58_other (p p' q : Value) (w : World) : Calls Try.prog 58 #[p, .iface 106 p', q] w (RetV (.bool false) w) := by
  have TA := ta97_106
  go_enter Try.func58, Try.ntmps58
  go_upto_region 2 with fail
  refine drawn_tail 35 (by kernel_rfl) (by kernel_rfl) (by kernel_rfl) (fun Q hQ => ?_)
  simp only [List.take_succ_cons, List.take_zero, List.drop_succ_cons, List.drop_zero]
  quiet_step (fail)
  with_reducible refine quiet_val (.bool false) (by simp [Region.wanted, yielded]) (fun w _ => move_run rfl (by with_unfolding_all rfl)) ?_
  simp only [Act.put, List.setIfInBounds_toArray, List.set_cons_succ, List.set_cons_zero]
  iterate 9 (with_reducible refine quiet_no (by simp [Region.wanted, yielded]) ?_; simp only [Act.put, List.setIfInBounds_toArray, List.set_cons_succ, List.set_cons_zero])
  with_reducible refine quiet_val (.bool false) (by simp [Region.wanted, yielded]) (fun w _ => pick_run rfl (by with_unfolding_all rfl) (by with_unfolding_all rfl)) ?_
  simp only [Act.put, List.setIfInBounds_toArray, List.set_cons_succ, List.set_cons_zero]
  with_reducible refine quiet_val (.bool false) (by simp [Region.wanted, yielded]) (fun w _ => move_run rfl (by with_unfolding_all rfl)) ?_
  simp only [Act.put, List.setIfInBounds_toArray, List.set_cons_succ, List.set_cons_zero]
  iterate 9 (with_reducible refine quiet_no (by simp [Region.wanted, yielded]) ?_; simp only [Act.put, List.setIfInBounds_toArray, List.set_cons_succ, List.set_cons_zero])
  with_reducible refine quiet_val (.bool false) (by simp [Region.wanted, yielded]) (fun w _ => pick_run rfl (by with_unfolding_all rfl) (by with_unfolding_all rfl)) ?_
  simp only [Act.put, List.setIfInBounds_toArray, List.set_cons_succ, List.set_cons_zero]
  with_reducible refine quiet_val (.bool false) (by simp [Region.wanted, yielded]) (fun w _ => move_run rfl (by with_unfolding_all rfl)) ?_
  simp only [Act.put, List.setIfInBounds_toArray, List.set_cons_succ, List.set_cons_zero]
  iterate 10 (with_reducible refine quiet_no (by simp [Region.wanted, yielded]) ?_; simp only [Act.put, List.setIfInBounds_toArray, List.set_cons_succ, List.set_cons_zero])
  with_reducible refine quiet_val (.bool false) (by simp [Region.wanted, yielded]) (fun w _ => pick_run rfl (by with_unfolding_all rfl) (by with_unfolding_all rfl)) ?_
  simp only [Act.put, List.setIfInBounds_toArray, List.set_cons_succ, List.set_cons_zero]
  refine wpQuiet_nil ?_
  intro W9 hw
  have b9 : Hid (Below w.heap.size w W9) := Lib.hid (by
    obtain ⟨⟨d, os⟩, rfl⟩ := hw
    exact below_regrown _ d os)
  clear hw 
  go_wp2
  go_ret
  exact ⟨by simp, b9.out⟩
theorem eq58_same (O O' : Nat → Prop) (B B' : Nat) (a a' : Option Addr) (c c' n n' : Nat) (ls ls' : List (CxR Unit)) (k k' : Nat) (q : Value) (w : World) (hs : Seg w B 0 [.slice a n c, .string ⟨#[]⟩, .string ⟨#[]⟩, .int .u8 k]) (hs' : Seg w B' 0 [.slice a' n' c', .string ⟨#[]⟩, .string ⟨#[]⟩, .int .u8 k']) (h : RCx G0 O w a ls) (h' : RCx G0 O' w a' ls') (hn : ls.length = n) (hn' : ls'.length = n') (hl : n ≤ maxLen) (hl' : n' ≤ maxLen) : Calls Try.prog 58 #[.pointer (some ⟨B, 0, none⟩), .iface 97 (.pointer (some ⟨B', 0, none⟩)), q] w (RetV (.bool (decide (k = k') && decide (ls.map CxR.key = ls'.map CxR.key))) w) := by
  have TA := ta97_97
  have a0 := hs 0 _ rfl; have a1 := hs 1 _ rfl; have a2 := hs 2 _ rfl; have a3 := hs 3 _ rfl
  have b0 := hs' 0 _ rfl; have b1 := hs' 1 _ rfl; have b2 := hs' 2 _ rfl; have b3 := hs' 3 _ rfl
  simp only [Nat.zero_add] at a0 a1 a2 a3 b0 b1 b2 b3
  have C47 := Lib.hid (fun d os => cs47_c G0.keep he0 O O' a a' c c' ls ls' n n' hn hn' q (Sort.grow (redrawn w d) os) (h.keep G0.keep (Kc.of_below (below_regrown w d os)) (fun _ _ q => q)) (h'.keep G0.keep (Kc.of_below (below_regrown w d os)) (fun _ _ q => q)) hl hl')
  have x0 := fun d os => cell_regrown a0 d os; have x1 := fun d os => cell_regrown a1 d os; have x2 := fun d os => cell_regrown a2 d os; have x3 := fun d os => cell_regrown a3 d os
  have y0 := fun d os => cell_regrown b0 d os; have y1 := fun d os => cell_regrown b1 d os; have y2 := fun d os => cell_regrown b2 d os; have y3 := fun d os => cell_regrown b3 d os
  clear hs hs' h h' hn hn' hl hl'
  obtain ⟨bb, hbb⟩ : ∃ y, decide (ls.map CxR.key = ls'.map CxR.key) = y := ⟨_, rfl⟩
  rw [hbb] at C47 ⊢
  clear hbb
  by_cases hk : k = k'
  · subst hk
    have hd : (decide (k = k) && bb) = bb := by simp
    rw [hd]
    clear hd
    go_enter Try.func58, Try.ntmps58
    go_upto_region 2 with fail
    refine drawn_tail 35 (by kernel_rfl) (by kernel_rfl) (by kernel_rfl) (fun Q hQ => ?_)
    simp only [List.take_succ_cons, List.take_zero, List.drop_succ_cons, List.drop_zero]
    repeat (quiet_step (exact Calls.regrown_of (C47.out _ _)))
    refine wpQuiet_nil ?_
    intro W9 hw
    have b9 : Hid (Below w.heap.size w W9) := Lib.hid (by
      obtain ⟨⟨d, os⟩, rfl⟩ := hw
      exact below_regrown _ d os)
    clear hw x0 x1 x2 x3 y0 y1 y2 y3
    go_wp2
    go_ret
    exact ⟨by simp, b9.out⟩
  · have hd : (decide (k = k') && bb) = false := by simp [hk]
    rw [hd]
    clear hd
    have t1 : ((k : Int) == (k' : Int)) = false := by simp; omega
    go_enter Try.func58, Try.ntmps58
    go_upto_region 2 with fail
    refine drawn_tail 35 (by kernel_rfl) (by kernel_rfl) (by kernel_rfl) (fun Q hQ => ?_)
    simp only [List.take_succ_cons, List.take_zero, List.drop_succ_cons, List.drop_zero]
    iterate 10 quiet_step (fail)
    quiet_step (fail)
    with_reducible refine quiet_val (.bool false) (by simp [Region.wanted, yielded]) (fun w _ => pick_yes rfl (by with_unfolding_all rfl) (by with_unfolding_all rfl)) ?_
    simp only [Act.put, List.setIfInBounds_toArray, List.set_cons_succ, List.set_cons_zero]
    with_reducible refine quiet_val (.bool false) (by simp [Region.wanted, yielded]) (fun w _ => move_run rfl (by with_unfolding_all rfl)) ?_
    simp only [Act.put, List.setIfInBounds_toArray, List.set_cons_succ, List.set_cons_zero]
    iterate 9 (with_reducible refine quiet_no (by simp [Region.wanted, yielded]) ?_; simp only [Act.put, List.setIfInBounds_toArray, List.set_cons_succ, List.set_cons_zero])
    with_reducible refine quiet_val (.bool false) (by simp [Region.wanted, yielded]) (fun w _ => pick_run rfl (by with_unfolding_all rfl) (by with_unfolding_all rfl)) ?_
    simp only [Act.put, List.setIfInBounds_toArray, List.set_cons_succ, List.set_cons_zero]
    with_reducible refine quiet_val (.bool false) (by simp [Region.wanted, yielded]) (fun w _ => move_run rfl (by with_unfolding_all rfl)) ?_
    simp only [Act.put, List.setIfInBounds_toArray, List.set_cons_succ, List.set_cons_zero]
    iterate 10 (with_reducible refine quiet_no (by simp [Region.wanted, yielded]) ?_; simp only [Act.put, List.setIfInBounds_toArray, List.set_cons_succ, List.set_cons_zero])
    with_reducible refine quiet_val (.bool false) (by simp [Region.wanted, yielded]) (fun w _ => pick_run rfl (by with_unfolding_all rfl) (by with_unfolding_all rfl)) ?_
    simp only [Act.put, List.setIfInBounds_toArray, List.set_cons_succ, List.set_cons_zero]
    refine wpQuiet_nil ?_
    intro W9 hw
    have b9 : Hid (Below w.heap.size w W9) := Lib.hid (by
      obtain ⟨⟨d, os⟩, rfl⟩ := hw
      exact below_regrown _ d os)
    clear hw x0 x1 x2 x3 y0 y1 y2 y3
    go_wp2
    go_ret
    exact ⟨by simp, b9.out⟩
theorem inK_inj {b b' : Bool} : decide (inK b = inK b') = decide (b = b') := by cases b <;> cases b' <;> rfl
theorem he1 : HEq' K1 G1 := fun O O' s s' q w h h' => by
  obtain ⟨st, sp, sk⟩ := s
  obtain ⟨st', sp', sk'⟩ := s'
  rcases h with ⟨h1, h2⟩ | ⟨k, b, B, a, c, ls, h1, h2, h3, hn, hs, hr, hl, hk, -⟩ <;> rcases h' with ⟨h1', h2'⟩ | ⟨k', b', B', a', c', ls', h1', h2', h3', hn', hs', hr', hl', hk', -⟩
  · obtain ⟨h2, B, h3, h4⟩ := h2
    have h5 := h2'.1
    simp only at h1 h2 h3 h1' h5
    subst h1 h2 h3 h1' h5
    exact ⟨B, rfl, .inl ⟨rfl, eq63_same O O' _ _ q w ⟨rfl, B, rfl, h4⟩ h2'⟩⟩
  · obtain ⟨h2, B, h3, h4⟩ := h2
    simp only at h1 h2 h3 h1' h2' h3'
    subst h1 h2 h3 h1' h2' h3'
    exact ⟨B, rfl, .inl ⟨rfl, eq63_other _ _ q w⟩⟩
  · have h5 := h2'.1
    simp only at h1 h2 h3 h1' h5
    subst h1 h2 h3 h1' h5
    exact ⟨B, rfl, .inr ⟨rfl, eq58_other _ _ q w⟩⟩
  · simp only at h1 h2 h3 h1' h2' h3'
    subst h1 h2 h3 h1' h2' h3'
    refine ⟨B, rfl, .inr ⟨rfl, ?_⟩⟩
    have := eq58_same O O' B B' a a' c c' _ _ ls ls' k k' q w hs hs' hr hr' rfl rfl hl hl'
    rw [hk, hk', inK_inj] at this
    have e : decide ((some (k, b) : K1) = some (k', b')) = (decide (k = k') && decide (b = b')) := by simp [Bool.decide_and]
    simp only [e]
    exact this
theorem ta55_64 (p : Value) (W : World) : (Instr.typeAssert (.iface 64 p) 55 64 true).run Try.prog W = .ok (.tuple #[p, .bool true]) W := by kernel_rfl
theorem rule45_c (O O' : Nat → Prop) (r r' : RlR) (q : Value) (w : World) (h : GRl O w r) (h' : GRl O' w r') : Calls Try.prog 45 #[.pointer (some ⟨r.B, 0, none⟩), .iface 64 (.pointer (some ⟨r'.B, 0, none⟩)), q] w (RetV (.bool (decide (r.key = r'.key))) w) := by
  obtain ⟨B, lc, a, c, ls⟩ := r
  obtain ⟨B', lc', a', c', ls'⟩ := r'
  obtain ⟨-, hs, hr, hl⟩ := h
  obtain ⟨-, hs', hr', hl'⟩ := h'
  simp only at hs hr hl hs' hr' hl'
  show Calls Try.prog 45 #[.pointer (some ⟨B, 0, none⟩), .iface 64 (.pointer (some ⟨B', 0, none⟩)), q] w (RetV (.bool (decide (ls.map CxR.key = ls'.map CxR.key))) w)
  have TA := ta55_64
  obtain ⟨a0, a1, a2⟩ := segs3 hs
  obtain ⟨b0, b1, b2⟩ := segs3 hs'
  simp only [Nat.zero_add] at a0 a1 a2 b0 b1 b2
  have C47 := Lib.hid (fun d os => cs47_c G1.keep he1 O O' a a' c c' ls ls' _ _ rfl rfl q (Sort.grow (redrawn w d) os) (hr.keep G1.keep (Kc.of_below (below_regrown w d os)) (fun _ _ q => q)) (hr'.keep G1.keep (Kc.of_below (below_regrown w d os)) (fun _ _ q => q)) hl hl')
  have C48 := Lib.hid (fun w => rules48_c q w)
  have x0 := fun d os => cell_regrown a0 d os; have x1 := fun d os => cell_regrown a1 d os
  have y0 := fun d os => cell_regrown b0 d os; have y1 := fun d os => cell_regrown b1 d os
  obtain ⟨bb, hbb⟩ : ∃ y, decide (ls.map CxR.key = ls'.map CxR.key) = y := ⟨_, rfl⟩
  rw [hbb] at C47 ⊢
  clear hs hs' hr hr' hl hl' hbb
  generalize ls.length = n at *
  generalize ls'.length = n' at *
  cases bb
  · go_enter Try.func45, Try.ntmps45
    go_upto_region 2 with fail
    refine drawn_tail 25 (by kernel_rfl) (by kernel_rfl) (by kernel_rfl) (fun Q hQ => ?_)
    simp only [List.take_succ_cons, List.take_zero, List.drop_succ_cons, List.drop_zero]
    iterate 11 quiet_step (fail)
    quiet_step (exact Calls.regrown_of (C47.out _ _))
    with_reducible refine quiet_val (.bool false) (by simp [Region.wanted, yielded]) (fun w _ => pick_yes rfl (by with_unfolding_all rfl) (by with_unfolding_all rfl)) ?_
    simp only [Act.put, List.setIfInBounds_toArray, List.set_cons_succ, List.set_cons_zero]
    with_reducible refine quiet_val (.bool false) (by simp [Region.wanted, yielded]) (fun w _ => move_run rfl (by with_unfolding_all rfl)) ?_
    simp only [Act.put, List.setIfInBounds_toArray, List.set_cons_succ, List.set_cons_zero]
    iterate 10 (with_reducible refine quiet_no (by simp [Region.wanted, yielded]) ?_; simp only [Act.put, List.setIfInBounds_toArray, List.set_cons_succ, List.set_cons_zero])
    with_reducible refine quiet_val (.bool false) (by simp [Region.wanted, yielded]) (fun w _ => pick_run rfl (by with_unfolding_all rfl) (by with_unfolding_all rfl)) ?_
    simp only [Act.put, List.setIfInBounds_toArray, List.set_cons_succ, List.set_cons_zero]
    refine wpQuiet_nil ?_
    intro W9 hw
    have b9 : Hid (Below w.heap.size w W9) := Lib.hid (by
      obtain ⟨⟨d, os⟩, rfl⟩ := hw
      exact below_regrown _ d os)
    clear hw x0 x1 y0 y1
    go_wp2
    go_ret
    exact ⟨by simp, b9.out⟩
  · go_enter Try.func45, Try.ntmps45
    go_upto_region 2 with fail
    refine drawn_tail 25 (by kernel_rfl) (by kernel_rfl) (by kernel_rfl) (fun Q hQ => ?_)
    simp only [List.take_succ_cons, List.take_zero, List.drop_succ_cons, List.drop_zero]
    repeat (first | quiet_step (exact Calls.regrown_of (C47.out _ _)) | quiet_step (exact Calls.regrown_of (C48.out _)))
    refine wpQuiet_nil ?_
    intro W9 hw
    have b9 : Hid (Below w.heap.size w W9) := Lib.hid (by
      obtain ⟨⟨d, os⟩, rfl⟩ := hw
      exact below_regrown _ d os)
    clear hw x0 x1 y0 y1
    go_wp2
    go_ret
    exact ⟨by simp, b9.out⟩
end Go.Proofs.Ytidmdcadejfjhaa

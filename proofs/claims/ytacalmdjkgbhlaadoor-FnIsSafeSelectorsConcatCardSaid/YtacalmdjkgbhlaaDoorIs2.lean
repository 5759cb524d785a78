/- FnIsSafeSelectorsConcat: isSafeSelectors. -/
import Derived.Test.YtacalmdjkgbhlaaDoorIs1
import Derived.Test.YtacalmdjkgbhlaaDoorST
import Derived.WalkMore
import Derived.Lib.SliceRun
set_option linter.unusedVariables false
set_option linter.unusedSimpArgs false
namespace Go.Proofs.YtacalmdjkgbhlaaDoor
open Go.RowKit
def Gv (v : Value) (w : World) (e : Ending) (w' : World) : Prop := e = .returned v ∧ Below w.heap.size w w'
def Res (res : ByteArray → Bool) (w : World) : Prop := ∃ bm es clock, w.cell? ⟨0, 0, none⟩ = some (.map (some bm)) ∧ w.heap[bm]? = some (.map es clock) ∧
  ∀ (s : ByteArray) (W : World), s.size ≤ maxLen → W.heap[bm]? = some (.map es clock) → (Instr.lookup 56 (.map (some bm)) (.string s) false).run Tryd.prog W = .ok (.bool (res s)) W
theorem Res.look {res : ByteArray → Bool} {w w' : World} (h : Res res w) (hb : Below w.heap.size w w') : ∃ bm, w'.cell? ⟨0, 0, none⟩ = some (.map (some bm)) ∧ ∀ (s : ByteArray) (W : World), s.size ≤ maxLen → Below w.heap.size w W → (Instr.lookup 56 (.map (some bm)) (.string s) false).run Tryd.prog W = .ok (.bool (res s)) W := by
  obtain ⟨bm, es, clock, h1, h2, h3⟩ := h
  exact ⟨bm, ac hb h1, fun s W hs hW => h3 s W hs (by rw [hW.block _ (Array.getElem?_eq_some_iff.1 h2).1]; exact h2)⟩
section
variable {P : Program} {ops : Array Oper} {C : World → Prop}
theorem quiet_no {Q : Act → Prop} {a : Act} {o : Oper} {rest : List Oper} (hw : Region.wanted o (yielded ops a.tmps) = false) (h : wpQuiet P ops C Q rest (a.put o.dst undef)) : wpQuiet P ops C Q (o :: rest) a := by
  unfold wpQuiet
  rw [if_neg (by rw [hw]; decide)]
  exact h
theorem quiet_val {Q : Act → Prop} {a : Act} {o : Oper} {rest : List Oper} (v : Value) (hw : Region.wanted o (yielded ops a.tmps) = true) (hr : ∀ w, C w → (execOp a.eval o).run P w = .ok (.value v) w) (h : wpQuiet P ops C Q rest (a.put o.dst v)) : wpQuiet P ops C Q (o :: rest) a := by
  unfold wpQuiet
  rw [if_pos hw]
  exact ⟨v, fun w hC => by unfold Oper.quietAt; rw [hr w hC]; exact ⟨rfl, rfl⟩, h⟩
theorem move_run {w : World} {a : Act} {o : Oper} {x : Operand} {v : Value} (ho : o.op = .move x) (hx : a.eval x = v) : (execOp a.eval o).run P w = .ok (.value v) w := by
  unfold execOp
  simp only [ho, hx, Sem.run_bind, Sem.run_pure, Result.andThen_ok]
theorem look_run {w : World} {a : Act} {o : Oper} {t : TypeId} {x y : Operand} {m k v : Value} (ho : o.op = .lookup t x y false) (hx : a.eval x = m) (hy : a.eval y = k) (h : (Instr.lookup t m k false).run P w = .ok v w) : (execOp a.eval o).run P w = .ok (.value v) w := by
  unfold execOp
  simp only [ho, hx, hy, Sem.run_bind, Sem.run_pure, h, Result.andThen_ok]
end
theorem all_step {T : Type} {f : T → Bool} {ls : List T} {i : Nat} {x : T} (h : ls[i]? = some x) : (ls.take (i + 1)).all f = ((ls.take i).all f && f x) := by
  rw [List.take_add_one, h, List.all_append]; simp
theorem all_no {T : Type} {f : T → Bool} {ls : List T} {i : Nat} {x : T} (h : ls[i]? = some x) (hf : f x = false) : ls.all f = false := by
  rw [List.all_eq_false]
  exact ⟨x, List.mem_of_getElem? h, by rw [hf]; decide⟩
theorem all_full {T : Type} {f : T → Bool} {ls : List T} : (ls.take ls.length).all f = ls.all f := by rw [List.take_length]
theorem ta61 (p : Value) (W : World) : (Instr.typeAssert (.iface 61 p) 58 61 true).run Tryd.prog W = .ok (.tuple #[p, .bool true]) W := by kernel_rfl
theorem ta6461 (p : Value) (W : World) : (Instr.typeAssert (.iface 64 p) 58 61 true).run Tryd.prog W = .ok (.tuple #[.pointer none, .bool false]) W := by kernel_rfl
theorem ta6861 (p : Value) (W : World) : (Instr.typeAssert (.iface 68 p) 58 61 true).run Tryd.prog W = .ok (.tuple #[.pointer none, .bool false]) W := by kernel_rfl
theorem ta7761 (p : Value) (W : World) : (Instr.typeAssert (.iface 77 p) 58 61 true).run Tryd.prog W = .ok (.tuple #[.pointer none, .bool false]) W := by kernel_rfl
theorem ta64 (p : Value) (W : World) : (Instr.typeAssert (.iface 64 p) 58 64 true).run Tryd.prog W = .ok (.tuple #[p, .bool true]) W := by kernel_rfl
theorem ta6864 (p : Value) (W : World) : (Instr.typeAssert (.iface 68 p) 58 64 true).run Tryd.prog W = .ok (.tuple #[.pointer none, .bool false]) W := by kernel_rfl
theorem ta7764 (p : Value) (W : World) : (Instr.typeAssert (.iface 77 p) 58 64 true).run Tryd.prog W = .ok (.tuple #[.pointer none, .bool false]) W := by kernel_rfl
theorem ta68 (p : Value) (W : World) : (Instr.typeAssert (.iface 68 p) 58 68 true).run Tryd.prog W = .ok (.tuple #[p, .bool true]) W := by kernel_rfl
theorem ta7768 (p : Value) (W : World) : (Instr.typeAssert (.iface 77 p) 58 68 true).run Tryd.prog W = .ok (.tuple #[.pointer none, .bool false]) W := by kernel_rfl
set_option maxRecDepth 100000 in
set_option maxHeartbeats 4000000 in
theorem safe9_c (kn : ByteArray → Bool) (a : Option Addr) (c : Nat) (ls : List CxR) (w : World) (h : RCx kn (fun _ => False) w a ls) (hn : ls.length ≤ maxLen) (hR : Res kn w) : Calls Tryd.prog 9 #[.slice a ls.length c] w (Gv (.bool (ls.all CxR.safe)) w) := by
  have hM : maxLen = 9223372036854775807 := by decide
  have H := Lib.hid h
  have HR := Lib.hid hR
  rw [hM] at hn
  obtain ⟨n, hnn⟩ : ∃ n, ls.length = n := ⟨_, rfl⟩
  rw [hnn] at hn ⊢
  replace hnn := Lib.hid hnn
  clear h hR
  go_enter Tryd.func9, Tryd.ntmps9
  go_wp2
  go_loopw [14] (fun v wr => ∃ i : Nat, i ≤ n ∧ v = .int .i64 i ∧ (ls.take i).all CxR.safe = true ∧ Below w.heap.size w wr) (fun v _ => n - (intOf v).toNat)
  case atStart => exact ⟨0, by omega, rfl, rfl, Below.refl _ _⟩
  case round =>
    obtain ⟨i, hi, rfl, hp, hB⟩ := hrel
    obtain ⟨w1, rfl⟩ : ∃ w1 : World, w1 = wr := ⟨_, rfl⟩
    replace hp := Lib.hid hp
    replace hB := Lib.hid hB
    by_cases hlt : i < n
    · obtain ⟨r, hr⟩ : ∃ r, ls[i]? = some r := ⟨_, List.getElem?_eq_getElem (by rw [hnn.out]; exact hlt)⟩
      obtain ⟨g, rfl, -, hc, hrow, hm⟩ := H.out i r hr
      rw [hM] at hm
      replace hrow := Lib.hid (hrow.after hB.out)
      replace hc := ac hB.out hc
      replace hr := Lib.hid hr
      have i0 : (0 : Int) ≤ i := by omega
      have i1 : (i : Int) < n := by omega
      obtain ⟨m, hmm⟩ : ∃ m, r.ls.length = m := ⟨_, rfl⟩
      rw [hmm] at hc hm
      replace hmm := Lib.hid hmm
      go_upto_region 4 with fail
      refine wp_gen (fun w2 hW => ?_)
      have b2 : Hid (Below w1.heap.size w1 w2) := Lib.hid (by rw [hW]; exact ba _ _)
      have d0 : w2.cell? ⟨w1.heap.size, 0, none⟩ = some (.slice r.a m r.c) := by rw [hW]; simp [go_sem]
      clear hW hc
      replace hrow := Lib.hid (hrow.out.after b2.out)
      have B2 : Hid (Below w.heap.size w w2) := Lib.hid (hB.out.trans (b2.out.mono hB.out.size))
      clear b2 hB
      generalize w1.heap.size = P4 at *
      go_wp2
      clear d0
      go_loopw [21] (fun v wr => ∃ j : Nat, j ≤ m ∧ v = .int .i64 j ∧ (r.ls.take j).all CpR.safe = true ∧ Below w2.heap.size w2 wr) (fun v _ => m - (intOf v).toNat)
      case atStart => exact ⟨0, by omega, rfl, rfl, Below.refl _ _⟩
      case round =>
        obtain ⟨j, hj, rfl, hq, hB⟩ := hrel
        obtain ⟨w3, rfl⟩ : ∃ w3 : World, w3 = wr := ⟨_, rfl⟩
        replace hq := Lib.hid hq
        replace hB := Lib.hid hB
        by_cases hltj : j < m
        · obtain ⟨u, hu⟩ : ∃ u, r.ls[j]? = some u := ⟨_, List.getElem?_eq_getElem (by rw [hmm.out]; exact hltj)⟩
          obtain ⟨g2, ha2, -, hs, hG, hm2⟩ := hrow.out j u hu
          rw [hM] at hm2
          rw [ha2]
          have bad : Hid (u.safe = false → ls.all CxR.safe = false) := Lib.hid (fun e => all_no hr.out (all_no hu e))
          replace hu := Lib.hid hu
          replace hG := Lib.hid (hG.after hB.out)
          have B3 : Hid (Below w.heap.size w w3) := Lib.hid (B2.out.trans (hB.out.mono B2.out.size))
          have hs := Lib.hid (Seg.keep (O := fun _ => False) hs (Kc.of_below hB.out) (fun q => q))
          have j0 : (0 : Int) ≤ j := by omega
          have j1 : (j : Int) < m := by omega
          have hus : Hid (u.safe = (u.nn == 0 && u.cb == 0 && u.td && u.ls.all SubR.d)) := Lib.hid rfl
          have c0 : w3.cell? ⟨g2, j * 6, none⟩ = some (.pointer u.tp) := by simpa using hs.out 0 _ rfl
          have c1 : w3.cell? ⟨g2, j * 6 + 1, none⟩ = some (.slice u.a u.ls.length u.c) := by simpa using hs.out 1 _ rfl
          have c2 : w3.cell? ⟨g2, j * 6 + 2, none⟩ = some (.slice u.nx u.nn u.nc) := by simpa using hs.out 2 _ rfl
          have c3 : w3.cell? ⟨g2, j * 6 + 3, none⟩ = some (.int .i32 0) := by simpa using hs.out 3 _ rfl
          have c4 : w3.cell? ⟨g2, j * 6 + 4, none⟩ = some (.int .u8 u.cb) := by simpa using hs.out 4 _ rfl
          have c5 : w3.cell? ⟨g2, j * 6 + 5, none⟩ = some (.bool false) := by simpa using hs.out 5 _ rfl
          obtain ⟨tp, htp⟩ : ∃ y, u.tp = y := ⟨_, rfl⟩
          obtain ⟨td, htd⟩ : ∃ y, u.td = y := ⟨_, rfl⟩
          obtain ⟨nS, hnS⟩ : ∃ y, u.ls.length = y := ⟨_, rfl⟩
          obtain ⟨aS, haS⟩ : ∃ y, u.a = y := ⟨_, rfl⟩
          obtain ⟨cS, hcS⟩ : ∃ y, u.c = y := ⟨_, rfl⟩
          obtain ⟨nn, hnn⟩ : ∃ y, u.nn = y := ⟨_, rfl⟩
          obtain ⟨nx, hnx⟩ : ∃ y, u.nx = y := ⟨_, rfl⟩
          obtain ⟨nc, hnc⟩ : ∃ y, u.nc = y := ⟨_, rfl⟩
          obtain ⟨cb, hcb⟩ : ∃ y, u.cb = y := ⟨_, rfl⟩
          have hG1 := Lib.hid hG.out.1
          have hG2 := Lib.hid hG.out.2
          rw [htp, htd] at hG1
          rw [haS] at hG2
          rw [hnn, hcb, htd] at hus
          rw [htp] at c0
          rw [haS, hnS, hcS] at c1
          rw [hnx, hnn, hnc] at c2
          rw [hcb] at c4
          rw [hnS] at hm2
          replace hnS := Lib.hid hnS
          clear htp htd haS hcS hnn hnx hnc hcb hG hs
          go_upto_region 7 with fail
          refine wp_gen (fun w4 hW => ?_)
          have b4 : Hid (Below w3.heap.size w3 w4) := Lib.hid (by rw [hW]; exact ba _ _)
          have d0 : w4.cell? ⟨w3.heap.size, 0, none⟩ = some (.pointer tp) := by rw [hW]; simp [go_sem]
          have d1 : w4.cell? ⟨w3.heap.size, 1, none⟩ = some (.slice aS nS cS) := by rw [hW]; simp [go_sem]
          have d2 : w4.cell? ⟨w3.heap.size, 2, none⟩ = some (.slice nx nn nc) := by rw [hW]; simp [go_sem]
          have d4 : w4.cell? ⟨w3.heap.size, 4, none⟩ = some (.int .u8 cb) := by rw [hW]; simp [go_sem]
          clear hW c0 c1 c2 c3 c4 c5
          have B4 : Hid (Below w.heap.size w w4) := Lib.hid (B3.out.trans (b4.out.mono B3.out.size))
          have B24 : Hid (Below w2.heap.size w2 w4) := Lib.hid (hB.out.trans (b4.out.mono hB.out.size))
          have hT4 := Lib.hid (hG1.out.keep (Kc.of_below b4.out) (fun _ _ q => q))
          have hS4 := Lib.hid (hG2.out.after b4.out)
          clear b4 B3 hB hG1 hG2
          generalize w3.heap.size = P6 at *
          by_cases hn0 : nn = 0
          · by_cases hc0 : cb = 0
            · subst hn0 hc0
              go_upto_if 35 with fail
              go_cut [] (fun wx => td = true ∧ Below w4.heap.size w4 wx)
              case first =>
                rcases hT4.out with ⟨rfl, rfl⟩ | ⟨B, px, tx, k, rfl, -, t0, t1, t4, htd, htx⟩
                · go_wp2
                  go_meet
                  exact ⟨by first | rfl | trivial, Below.refl _ _⟩
                · cases px with
                  | some px =>
                    have hsf : Hid (u.safe = false) := Lib.hid (by rw [hus.out, htd]; rfl)
                    clear htd
                    go_wp2
                    go_ret
                    exact ⟨by rw [bad.out hsf.out]; rfl, B4.out⟩
                  | none =>
                    obtain ⟨bm, hbm, lk⟩ := HR.out.look B4.out
                    have lkd : ∀ d os, (Instr.lookup 56 (.map (some bm)) (.string tx) false).run Tryd.prog (Sort.grow (redrawn w4 d) os) = .ok (.bool (kn tx)) (Sort.grow (redrawn w4 d) os) := fun d os => lk tx _ htx (B4.out.trans ((below_regrown w4 d os).mono B4.out.size))
                    obtain ⟨kt, hkt⟩ : ∃ y, kn tx = y := ⟨_, rfl⟩
                    rw [hkt] at htd lkd
                    replace htd := Lib.hid htd
                    clear lk hkt
                    go_upto_region 14 with fail
                    have a0 := fun d os => cell_regrown d0 d os
                    have a1 := fun d os => cell_regrown t1 d os
                    have a4 := fun d os => cell_regrown t4 d os
                    have am := fun d os => cell_regrown hbm d os
                    cases hk : k == 29
                    · refine drawn_tail 17 (by kernel_rfl) (by kernel_rfl) (by kernel_rfl) (fun Q hQ => ?_)
                      simp only [List.take_succ_cons, List.take_zero, List.drop_succ_cons, List.drop_zero]
                      iterate 7 quiet_step (fail)
                      with_reducible refine quiet_val (.bool false) (by simp [Region.wanted, yielded]) (fun w _ => move_run rfl (by with_unfolding_all rfl)) ?_
                      simp only [Act.put, List.setIfInBounds_toArray, List.set_cons_succ, List.set_cons_zero]
                      iterate 9 (with_reducible refine quiet_no (by simp [Region.wanted, yielded]) ?_; simp only [Act.put, List.setIfInBounds_toArray, List.set_cons_succ, List.set_cons_zero])
                      refine wpQuiet_nil ?_
                      intro w5 hw
                      have b5 : Hid (Below w4.heap.size w4 w5) := Lib.hid (by
                        obtain ⟨⟨d, os⟩, rfl⟩ := hw
                        exact below_regrown _ d os)
                      clear hw a0 a1 a4 am lkd
                      go_wp2
                      go_meet
                      exact ⟨by rw [htd.out, hk]; rfl, b5.out⟩
                    · refine drawn_tail 17 (by kernel_rfl) (by kernel_rfl) (by kernel_rfl) (fun Q hQ => ?_)
                      simp only [List.take_succ_cons, List.take_zero, List.drop_succ_cons, List.drop_zero]
                      iterate 7 quiet_step (fail)
                      iterate 8 quiet_step (fail)
                      refine quiet_val (.bool kt) (by simp [Region.wanted, yielded]) (fun w hC => by
                        obtain ⟨p, rfl⟩ := hC
                        exact look_run rfl rfl rfl (lkd p.d p.os)) ?_
                      simp only [Act.put, List.setIfInBounds_toArray, List.set_cons_succ, List.set_cons_zero]
                      quiet_step (fail)
                      refine wpQuiet_nil ?_
                      intro w5 hw
                      have b5 : Hid (Below w4.heap.size w4 w5) := Lib.hid (by
                        obtain ⟨⟨d, os⟩, rfl⟩ := hw
                        exact below_regrown _ d os)
                      clear hw a0 a1 a4 am lkd
                      cases kt
                      · have hsf : Hid (u.safe = false) := Lib.hid (by rw [hus.out, htd.out, hk]; rfl)
                        go_wp2
                        go_ret
                        exact ⟨by rw [bad.out hsf.out]; rfl, B4.out.trans (b5.out.mono B4.out.size)⟩
                      · go_wp2
                        go_meet
                        exact ⟨by rw [htd.out, hk]; rfl, b5.out⟩
              case rest =>
                obtain ⟨rfl, b5⟩ := hcut
                obtain ⟨w5, rfl⟩ : ∃ w5 : World, w5 = wc := ⟨_, rfl⟩
                have e1 := ac b5 d1
                have hS5 := Lib.hid (hS4.out.after b5)
                have B5 : Hid (Below w.heap.size w w5) := Lib.hid (B4.out.trans (b5.mono B4.out.size))
                have B25 : Hid (Below w2.heap.size w2 w5) := Lib.hid (B24.out.trans (b5.mono B24.out.size))
                clear b5 d0 d1 d2 d4 hT4 hS4 B4 B24
                go_wp2
                clear e1
                go_loopw [63] (fun v wr => ∃ k : Nat, k ≤ nS ∧ v = .int .i64 k ∧ (u.ls.take k).all SubR.d = true ∧ Below w5.heap.size w5 wr) (fun v _ => nS - (intOf v).toNat)
                case atStart => exact ⟨0, by omega, rfl, rfl, Below.refl _ _⟩
                case round =>
                  obtain ⟨k, hk, rfl, hz, hB⟩ := hrel
                  obtain ⟨w6, rfl⟩ : ∃ w6 : World, w6 = wr := ⟨_, rfl⟩
                  replace hz := Lib.hid hz
                  replace hB := Lib.hid hB
                  by_cases hltk : k < nS
                  · obtain ⟨sb, hsb⟩ : ∃ sb, u.ls[k]? = some sb := ⟨_, List.getElem?_eq_getElem (by rw [hnS.out]; exact hltk)⟩
                    obtain ⟨g3, ha3, -, hs3, hG3⟩ := hS5.out k sb hsb
                    rw [ha3]
                    have k0 : (0 : Int) ≤ k := by omega
                    have k1 : (k : Int) < nS := by omega
                    have bad2 : Hid (sb.d = false → ls.all CxR.safe = false) := Lib.hid (fun e => bad.out (by rw [hus.out, all_no hsb e]; simp))
                    have good : Hid (sb.d = true → (u.ls.take (k + 1)).all SubR.d = true) := Lib.hid (fun e => by rw [all_step hsb, hz.out, e]; rfl)
                    have B6 : Hid (Below w.heap.size w w6) := Lib.hid (B5.out.trans (hB.out.mono B5.out.size))
                    have hG6 := Lib.hid (hG3.after hB.out)
                    obtain ⟨t, p, d⟩ := sb
                    have c0 : w6.cell? ⟨g3, k * 3, none⟩ = some (.iface t p) := by have := ac hB.out (hs3 0 _ rfl); simpa using this
                    have c1 : w6.cell? ⟨g3, k * 3 + 1, none⟩ = some (.int .i32 0) := by have := ac hB.out (hs3 1 _ rfl); simpa using this
                    have c2 : w6.cell? ⟨g3, k * 3 + 2, none⟩ = some (.int .i32 0) := by have := ac hB.out (hs3 2 _ rfl); simpa using this
                    clear hsb hs3 hG3 ha3
                    go_upto_region 19 with fail
                    refine wp_gen (fun w7 hW => ?_)
                    have b7 : Hid (Below w6.heap.size w6 w7) := Lib.hid (by rw [hW]; exact ba _ _)
                    have f0 : w7.cell? ⟨w6.heap.size, 0, none⟩ = some (.iface t p) := by rw [hW]; simp [go_sem]
                    clear hW c0 c1 c2
                    have B7 : Hid (Below w.heap.size w w7) := Lib.hid (B6.out.trans (b7.out.mono B6.out.size))
                    have B57 : Hid (Below w5.heap.size w5 w7) := Lib.hid (hB.out.trans (b7.out.mono hB.out.size))
                    have hG7 := Lib.hid (hG6.out.after b7.out)
                    clear b7 hG6 B6 hB
                    generalize w6.heap.size = P8 at *
                    have q1 := ta61
                    have q2 := ta6461
                    have q3 := ta6861
                    have q4 := ta7761
                    have q5 := ta64
                    have q6 := ta6864
                    have q7 := ta7764
                    have q8 := ta68
                    have q9 := ta7768
                    rcases hG7.out with ⟨B, mm, ⟨rfl, rfl⟩, -, t7, hd⟩ | ⟨B, nm, x, el, ⟨rfl, rfl⟩, -, t0, t1, t2, hd⟩ | ⟨rfl, hd⟩ | ⟨rfl, hd⟩
                    · clear hG7
                      cases hm0 : mm == 0
                      · have hdd : Hid (d = false) := Lib.hid (by rw [← hm0]; exact hd)
                        clear hd
                        have hm1 : (mm != 0) = true := by rw [bne, hm0]; rfl
                        go_wp2
                        go_ret
                        exact ⟨by rw [bad2.out hdd.out]; rfl, B7.out⟩
                      · have hdd : Hid (d = true) := Lib.hid (by rw [← hm0]; exact hd)
                        clear hd
                        have hm1 : (mm != 0) = false := by rw [bne, hm0]; rfl
                        go_wp2
                        go_roundw
                        case rel => exact ⟨k + 1, by omega, by go_num, good.out hdd.out, B57.out⟩
                        case measure => simp [intOf]; omega
                    · clear hG7
                      have hq := fun W => Lib.run_eql_slice_nil (P := Tryd.prog) W 65 111 x 0 0 0 0 Tryd.underlying65
                      cases x with
                      | some x =>
                        have hdd : Hid (d = false) := Lib.hid hd
                        clear hd
                        go_wp2
                        go_ret
                        exact ⟨by rw [bad2.out hdd.out]; rfl, B7.out⟩
                      | none =>
                        cases el
                        · have hdd : Hid (d = isW nm) := Lib.hid hd
                          clear hd
                          cases w1 : (nm.toList == [97, 99, 116, 105, 118, 101])
                          · cases w2' : (nm.toList == [102, 105, 114, 115, 116, 45, 99, 104, 105, 108, 100])
                            · cases w3' : (nm.toList == [104, 111, 118, 101, 114])
                              · cases w4' : (nm.toList == [108, 105, 110, 107])
                                · cases w5' : (nm.toList == [118, 105, 115, 105, 116, 101, 100])
                                  · have hdf : Hid (d = false) := Lib.hid (by rw [hdd.out]; unfold isW; rw [w1, w2', w3', w4', w5']; rfl)
                                    go_wp2
                                    go_ret
                                    exact ⟨by rw [bad2.out hdf.out]; rfl, B7.out⟩
                                  · have hdt : Hid (d = true) := Lib.hid (by rw [hdd.out]; unfold isW; rw [w5']; simp)
                                    go_wp2
                                    go_roundw
                                    case rel => exact ⟨k + 1, by omega, by go_num, good.out hdt.out, B57.out⟩
                                    case measure => simp [intOf]; omega
                                · have hdt : Hid (d = true) := Lib.hid (by rw [hdd.out]; unfold isW; rw [w4']; simp)
                                  go_wp2
                                  go_roundw
                                  case rel => exact ⟨k + 1, by omega, by go_num, good.out hdt.out, B57.out⟩
                                  case measure => simp [intOf]; omega
                              · have hdt : Hid (d = true) := Lib.hid (by rw [hdd.out]; unfold isW; rw [w3']; simp)
                                go_wp2
                                go_roundw
                                case rel => exact ⟨k + 1, by omega, by go_num, good.out hdt.out, B57.out⟩
                                case measure => simp [intOf]; omega
                            · have hdt : Hid (d = true) := Lib.hid (by rw [hdd.out]; unfold isW; rw [w2']; simp)
                              go_wp2
                              go_roundw
                              case rel => exact ⟨k + 1, by omega, by go_num, good.out hdt.out, B57.out⟩
                              case measure => simp [intOf]; omega
                          · have hdt : Hid (d = true) := Lib.hid (by rw [hdd.out]; unfold isW; rw [w1]; simp)
                            go_wp2
                            go_roundw
                            case rel => exact ⟨k + 1, by omega, by go_num, good.out hdt.out, B57.out⟩
                            case measure => simp [intOf]; omega
                        · have hdd : Hid (d = false) := Lib.hid hd
                          clear hd
                          go_wp2
                          go_ret
                          exact ⟨by rw [bad2.out hdd.out]; rfl, B7.out⟩
                    · clear hG7
                      have hdd : Hid (d = false) := Lib.hid hd
                      clear hd
                      go_wp2
                      go_ret
                      exact ⟨by rw [bad2.out hdd.out]; rfl, B7.out⟩
                    · clear hG7
                      have hdd : Hid (d = true) := Lib.hid hd
                      clear hd
                      go_wp2
                      go_roundw
                      case rel => exact ⟨k + 1, by omega, by go_num, good.out hdd.out, B57.out⟩
                      case measure => simp [intOf]; omega
                  · have hsf : Hid (u.safe = true) := Lib.hid (by
                      have : k = nS := by omega
                      subst this
                      rw [← hnS.out, all_full] at hz
                      rw [hus.out, hz.out]
                      rfl)
                    obtain ⟨v6, hv6⟩ : ∃ y : Int, (k : Int) = y := ⟨_, rfl⟩
                    have hn6 : ¬ v6 < (nS : Int) := by omega
                    rw [hv6]
                    clear hv6
                    go_wp2
                    go_roundw
                    case rel => exact ⟨j + 1, by omega, by go_num, by rw [all_step hu.out, hq.out, hsf.out]; rfl, B25.out.trans (hB.out.mono B25.out.size)⟩
                    case measure => simp [intOf]; omega
            · have e4 : (cb == 0) = false := by simpa using hc0
              have hsf : Hid (u.safe = false) := Lib.hid (by rw [hus.out, e4, Bool.and_false]; rfl)
              subst hn0
              go_wp2
              go_ret
              exact ⟨by rw [bad.out hsf.out]; rfl, B4.out⟩
          · have e4 : (0 : Int) < nn := by omega
            have hsf : Hid (u.safe = false) := Lib.hid (by rw [hus.out]; simp [hn0])
            go_wp2
            go_ret
            exact ⟨by rw [bad.out hsf.out]; rfl, B4.out⟩
        · have hsf : Hid (r.safe = true) := Lib.hid (by
            have : j = m := by omega
            subst this
            rw [← hmm.out, all_full] at hq
            exact hq.out)
          obtain ⟨v5, hv5⟩ : ∃ y : Int, (j : Int) = y := ⟨_, rfl⟩
          have hn5 : ¬ v5 < (m : Int) := by omega
          rw [hv5]
          clear hv5
          go_wp2
          go_roundw
          case rel => exact ⟨i + 1, by omega, by go_num, by rw [all_step hr.out, hp.out, hsf.out]; rfl, B2.out.trans (hB.out.mono B2.out.size)⟩
          case measure => simp [intOf]; omega
    · have hsf : Hid (ls.all CxR.safe = true) := Lib.hid (by
        have : i = n := by omega
        subst this
        rw [← hnn.out, all_full] at hp
        exact hp.out)
      obtain ⟨v5, hv5⟩ : ∃ y : Int, (i : Int) = y := ⟨_, rfl⟩
      have hn5 : ¬ v5 < (n : Int) := by omega
      rw [hv5]
      clear hv5
      go_wp2
      go_ret
      exact ⟨by rw [hsf.out]; rfl, hB.out⟩
end Go.Proofs.YtacalmdjkgbhlaaDoor

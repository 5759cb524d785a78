/- zzParseList. -/
import Derived.Test.YtnkkfihcabfkdaaCt2
import Derived.Deep.QuietTactic
import Derived.BigQuiet
set_option linter.unusedVariables false
set_option linter.unusedSimpArgs false
namespace Go.Proofs.Ytnkkfihcabfkdaa
open Go.RowKit
set_option maxRecDepth 100000
set_option maxHeartbeats 4000000
def ParseP (w : World) (Pc : Nat) (A : Option Addr) (n c i : Nat) (e : Ending) (w' : World) : Prop := ∃ (a' : Option Addr) (n' c' : Nat) (ls : List CxR) (i' : Nat), e = .returned (.slice a' n' c') ∧ GL (fun b => b < w.heap.size) w' a' n' c' ls ∧ cntX ls ≤ i' - i ∧ i ≤ i' ∧ i' ≤ n ∧ Cur w' Pc A n c i' ∧ Kp (fun b => b = Pc) w w'
theorem PI.fin {w wr : World} {Pc : Nat} {A : Option Addr} {n c : Nat} {f : Nat → Int} {a : Option Addr} {m c' : Nat} {u6 u7 : Value} {i i' : Nat} {lL : List CxR} {lC : List CpR} {lS : List SubR} (h : PI w wr Pc A n c f (.slice a m c') u6 u7 i' lL lC lS) (i1 : Nat) (hi : i1 = i') (h1 : i ≤ i' ∧ i' ≤ n) (hc : cntX lL ≤ i1 - i) : ParseP w Pc A n c i (.returned (.slice a m c')) wr := by
  subst hi
  have hs := own_shape h.oL
  have e : m = lL.length := by obtain ⟨a2, c2, he, -, -⟩ := hs; injection he
  subst e
  refine ⟨_, _, _, lL, i1, rfl, ⟨⟨own_base h.oL (Nat.zero_le _), fun b e q => by have := (h.oL.lt b e).1; omega⟩, fun r hr => (h.gL r hr).kp (Kp.refl (S := fun _ => False) wr) (fun _ q => q.elim) (fun b _ q => .inl q)⟩, hc, h1.1, h1.2, h.cur, h.kp⟩
theorem PI.oo {w wr : World} {Pc : Nat} {A : Option Addr} {n c : Nat} {f : Nat → Int} {u5 u6 u7 : Value} {i : Nat} {lL : List CxR} {lC : List CpR} {lS : List SubR} (h : PI w wr Pc A n c f u5 u6 u7 i lL lC lS) {b : Nat} (q : OO w u5 u6 u7 b) : b < wr.heap.size := by
  rcases q with q | q | q | q
  · have := h.kp.size; omega
  · exact (h.oL.lt b q).2
  · exact (h.oC.lt b q).2
  · exact (h.oS.lt b q).2
def curOf (w : World) (Pc : Nat) : Nat := match w.cell? ⟨Pc, 1, none⟩ with | some v => (intOf v).toNat | none => 0
theorem Cur.of {w : World} {Pc : Nat} {A : Option Addr} {n c i : Nat} (h : Cur w Pc A n c i) : curOf w Pc = i := by unfold curOf; rw [h.c1]; simp [intOf]
def LP (w : World) (Pc : Nat) (A : Option Addr) (n c : Nat) (f : Nat → Int) (i : Nat) (u5 u6 u7 : Value) (wr : World) : Prop := ∃ (i' : Nat) (lL : List CxR) (lC : List CpR) (lS : List SubR), PI w wr Pc A n c f u5 u6 u7 i' lL lC lS ∧ i ≤ i' ∧ i' ≤ n ∧ cntX lL + cntP lC + cntS lS ≤ i' - i ∧ lL.length ≤ i' - i ∧ lC.length ≤ i' - i ∧ lS.length ≤ i' - i
theorem LP.mk {w : World} {Pc : Nat} {A : Option Addr} {n c : Nat} {f : Nat → Int} {i i' : Nat} {u5 u6 u7 : Value} {wr : World} {lL : List CxR} {lC : List CpR} {lS : List SubR} {i0 : Nat} (h : PI w wr Pc A n c f u5 u6 u7 i' lL lC lS) (h1 : i ≤ i') (h2 : i' ≤ n) (h3 : cntX lL + cntP lC + cntS lS ≤ i' - i) (h4 : lL.length ≤ i' - i) (h5 : lC.length ≤ i' - i) (h6 : lS.length ≤ i' - i) (hlt : i0 < i') {w0 : World} (h0 : Cur w0 Pc A n c i0) : LP w Pc A n c f i u5 u6 u7 wr ∧ n - curOf wr Pc < n - curOf w0 Pc := ⟨⟨i', lL, lC, lS, h, h1, h2, h3, h4, h5, h6⟩, by rw [h.cur.of, h0.of]; omega⟩
theorem parse10_c (A0 : Option Addr) (n c : Nat) (f : Nat → Int) (Pc : Nat) (hn : n ≤ 65536) : ∀ (m i depth : Nat) (w : World), n - i ≤ m → i ≤ n → depth ≤ i → RowK w A0 n f Pc → Cur w Pc A0 n c i → Calls Try.prog 10 #[.pointer (some ⟨Pc, 0, none⟩), .int .i64 depth] w (ParseP w Pc A0 n c i) := by
  intro m
  induction m using Nat.strongRecOn with
  | ind m ih =>
    intro i depth w hm hin hdi hR hC
    have hPc : Pc < w.heap.size := block_lt_of_cell hC.c0
    have mk : ∀ W : World, (Instr.makeSlice 42 (.int .i64 0) (.int .i64 0)).run Try.prog W = .ok (.slice (some ⟨W.heap.size, 0, none⟩) 0 0) (W.alloc (.cells (madeCells #[.slice none 0 0] 0) 41)) := fun W => by
      simpa using make0_z (P := Try.prog) #[.slice none 0 0] Try.underlying42 info41 0 (by omega) (by omega) W
    replace ih := Lib.hid ih; replace hR := Lib.hid hR; replace hC := Lib.hid hC
    go_enter Try.func10, Try.ntmps10
    go_upto_region 2 with fail
    clear mk
    refine wp_gen (fun W hW => ?_)
    have hbW : Below w.heap.size w W := by rw [hW]; exact ba _ _
    have hO : W.ownsRow w.heap.size 41 1 (.slice (some ⟨w.heap.size, 0, none⟩) 0 0) 0 (flat CxR.cells []) := by rw [hW]; exact World.ownsRow_made _ _ _ (Nat.le_refl _) (by unfold maxLen; omega) (by rw [size_madeCells])
    clear hW
    have k0 : Kp (fun _ => False) w W := Kp.of hbW
    have H0 : Hid (PI w W Pc A0 n c f (.slice (some ⟨w.heap.size, 0, none⟩) 0 0) (.slice none 0 0) (.slice none 0 0) i [] [] []) := Lib.hid ⟨hC.out.kp k0 (fun q => q), hR.out.kp k0 (fun _ q => q.elim), hPc, hR.out.lt, hO, World.ownsRow_nil _ _ _ _, World.ownsRow_nil _ _ _ _, (fun r hr => by simp at hr), (fun r hr => by simp at hr), (fun r hr => by simp at hr), Kp.of hbW⟩
    clear hbW hO k0 hC hR
    go_wp2_with fail
    go_loopw [5, 6, 7] (fun u5 u6 u7 wr => LP w Pc A0 n c f i u5 u6 u7 wr) (fun _ _ _ wr => n - curOf wr Pc)
    case atStart => exact ⟨i, [], [], [], H0.out, by omega, by omega, by simp [cntX, cntP, cntS], by simp, by simp, by simp⟩
    case round =>
      clear H0
      obtain ⟨i', lL, lC, lS, hI, hi0, hi1, hcnt, hl1, hl2, hl3⟩ := hrel
      obtain ⟨Wo, hWo⟩ : ∃ Wo, Wo = wr := ⟨_, rfl⟩
      subst hWo
      have hcur := Lib.hid hI.cur
      replace hI := Lib.hid hI
      have e0 := hI.out.cur.c0; have e1 := hI.out.cur.c1; have ef := hI.out.cur.f1
      by_cases hlt : i' < n
      · obtain ⟨x, hx, g⟩ := hI.out.row.row i' hlt
        have hgw := hI.out.row.wf i' hlt
        obtain ⟨op, hop⟩ : ∃ op, f i' % 5 = op := ⟨_, rfl⟩
        replace hx := Lib.hid hx
        rw [hx.out] at e0
        have j0 : (0 : Int) ≤ i' := by omega
        have j1 : (i' : Int) < n := by omega
        have b0 := hgw.1
        have b1 := hgw.2
        clear hgw
        go_wp2_with fail
        go_quiet (fail)
        go_wp2_with fail
        go_quiet (fail)
        go_upto_region 7 with fail
        clear e0 e1 ef g
        refine wp_gen (fun W4 hW => ?_)
        have hI4 : Hid (PI w W4 Pc A0 n c f u5 u6 u7 (i' + 1) lL lC lS) := Lib.hid (by rw [hW]; exact (hI.out.quiet (bdN (Below.refl _ Wo) _)).adv)
        clear hW hI
        have hcases : op = 0 ∨ op = 1 ∨ op = 2 ∨ op = 3 ∨ op = 4 := by omega
        rw [hop]
        clear hop
        rcases hcases with rfl | rfl | rfl | rfl | rfl
        · go_wp2_with (first | (go_at_call 9; (with_reducible refine (leaf9_c _).mono ?_); rintro e w4 ⟨p, rfl, hb⟩; have hI5 := Lib.hid (hI4.out.quiet hb); clear hb) | (at_builtin; go_loud (refine app1n (w := w4) (.tmp 41) (.tmp 43) 26 49 w.heap.size 3 24 #[.nilIface, .int .i32 0, .int .i32 0] (SubR.arr ⟨53, p, 1⟩) _ lS.length _ rfl rfl rfl rfl rfl Try.underlying26 info49 rfl (by omega) hI5.out.oS rfl (SubR.one ⟨53, p, 1⟩) (by omega) (by omega) hI5.out.base ?_); intro v' w5 ho hk hn; have hI6 := Lib.hid (hI5.out.sub ⟨53, p, 1⟩ (.leaf _ rfl rfl) ho hk hn); clear ho hk hn))
          exact LP.mk hI6.out (by omega) (by omega) (by rw [cntS_add]; simp only; omega) (by omega) (by omega) (by rw [List.length_append]; simp; omega) (by omega) hcur.out
        · have IH := Lib.hid (fun w' (hR : RowK w' A0 n f Pc) (hC : Cur w' Pc A0 n c (i' + 1)) => (show Calls Try.prog 10 #[.pointer (some ⟨Pc, 0, none⟩), .int .i64 ((depth : Int) + 1)] w' (ParseP w' Pc A0 n c (i' + 1)) from by
            have := ih.out (n - (i' + 1)) (by omega) (i' + 1) (depth + 1) w' (Nat.le_refl _) (by omega) (by omega) hR hC
            push_cast at this
            exact this))
          have hdd : (depth : Int) ≤ 65536 := by omega
          have hdd0 : (0 : Int) ≤ depth := by omega
          go_upto_region 11 with (go_at_call 10; (with_reducible refine (IH.out _ hI4.out.row hI4.out.cur).mono ?_); rintro e w4 ⟨a', n', c', ls, i2, rfl, hGL, hc, hle1, hle2, hcu, hkp⟩; have hI5 := Lib.hid (hI4.out.call hkp hcu); have hG5 := Lib.hid (hGL.kp (Kp.refl (S := fun _ => False) w4) (fun _ q => q.elim) (O' := OO w u5 u6 u7) (fun b _ q => hI4.out.oo q)); have hoo := Lib.hid (fun b q => Nat.lt_of_lt_of_le (hI4.out.oo (b := b) q) hkp.size); clear hGL hkp hcu)
          clear IH
          go_wp2_with (first | (go_at_call 11; (with_reducible refine (is11_c _ _ _ _).mono ?_); rintro e w5 ⟨B, rfl, hB1, hB2, hb⟩; have hI6 := Lib.hid (hI5.out.quiet hb); have hs := Lib.hid (G.mk (hG5.out.kp (Kp.of (S := fun _ => False) hb) (fun _ q => q.elim) (fun _ _ q => q)) (fun q => by have := hoo.out B q; omega) hB2); clear hb hB2) | (at_builtin; go_loud (refine app1n (w := w5) (.tmp 51) (.tmp 54) 26 49 w.heap.size 3 24 #[.nilIface, .int .i32 0, .int .i32 0] (SubR.arr ⟨57, .pointer (some ⟨B, 0, none⟩), 1 + cntX ls⟩) _ lS.length _ rfl rfl rfl rfl rfl Try.underlying26 info49 rfl (by omega) hI6.out.oS rfl (SubR.one ⟨57, .pointer (some ⟨B, 0, none⟩), 1 + cntX ls⟩) (by omega) (by omega) hI6.out.base ?_); intro v' w6 ho hk hn; have hI7 := Lib.hid (hI6.out.sub _ hs.out ho hk hn); clear ho hk hn))
          exact LP.mk hI7.out (by omega) (by omega) (by rw [cntS_add]; simp only; omega) (by omega) (by omega) (by rw [List.length_append]; simp; omega) (by omega) hcur.out
        · obtain ⟨a7, c7, hu7, -, -⟩ := own_shape hI4.out.oS
          subst hu7
          go_wp2_with (at_builtin; go_loud (refine app1n (w := W4) (.tmp 66) (.tmp 69) 39 33 w.heap.size 6 72 #[.pointer none, .slice none 0 0, .slice none 0 0, .int .i32 0, .int .u8 0, .bool false] (CpR.arr ⟨a7, lS.length, c7, lS⟩) _ lC.length _ rfl rfl rfl rfl rfl Try.underlying39 info33 rfl (by omega) hI4.out.oC rfl (CpR.one ⟨a7, lS.length, c7, lS⟩) (by omega) (by omega) hI4.out.base ?_); intro v' w5 ho hk hn; have h2 := Lib.hid (hI4.out.comp rfl ho hk hn); clear ho hk hn)
          exact LP.mk h2.out (by omega) (by omega) (by rw [cntP_add]; simp only [cntS, List.map_nil, List.sum_nil] at *; omega) (by omega) (by rw [List.length_append]; simp; omega) (by simp) (by omega) hcur.out
        · obtain ⟨a7, c7, hu7, -, -⟩ := own_shape hI4.out.oS
          subst hu7
          go_upto_region 17 with (at_builtin; go_loud (refine app1n (w := W4) (.tmp 73) (.tmp 76) 39 33 w.heap.size 6 72 #[.pointer none, .slice none 0 0, .slice none 0 0, .int .i32 0, .int .u8 0, .bool false] (CpR.arr ⟨a7, lS.length, c7, lS⟩) _ lC.length _ rfl rfl rfl rfl rfl Try.underlying39 info33 rfl (by omega) hI4.out.oC rfl (CpR.one ⟨a7, lS.length, c7, lS⟩) (by omega) (by omega) hI4.out.base ?_); intro v' w5 ho hk hn; have h2 := Lib.hid (hI4.out.comp rfl ho hk hn); clear ho hk hn)
          obtain ⟨a6, c6, hu6, -, -⟩ := own_shape h2.out.oC
          simp only [List.length_append, List.length_cons, List.length_nil, Nat.zero_add] at hu6
          subst hu6
          go_wp2_with (at_builtin; go_loud (refine app1n (w := w5) (.tmp 78) (.tmp 81) 42 41 w.heap.size 1 24 #[.slice none 0 0] (CxR.arr ⟨a6, lC.length + 1, c6, lC ++ [⟨a7, lS.length, c7, lS⟩]⟩) _ lL.length _ rfl rfl rfl rfl rfl Try.underlying42 info41 rfl (by omega) h2.out.oL rfl (CxR.one _) (by omega) (by omega) h2.out.base ?_); intro v2 w6 ho hk hn; have h3 := Lib.hid (h2.out.list (by simp) ho hk hn); clear ho hk hn)
          exact LP.mk h3.out (by omega) (by omega) (by rw [cntX_add, cntP_add]; simp only [cntS, cntP, List.map_nil, List.sum_nil] at *; omega) (by rw [List.length_append]; simp; omega) (by simp) (by simp) (by omega) hcur.out
        · obtain ⟨a7, c7, hu7, -, -⟩ := own_shape hI4.out.oS
          subst hu7
          by_cases hd0 : depth = 0
          · have hz : ((depth : Int) == 0) = true := by simp [hd0]
            clear hd0
            go_wp2_with (at_builtin; go_loud (refine app1n (w := W4) (.tmp 66) (.tmp 69) 39 33 w.heap.size 6 72 #[.pointer none, .slice none 0 0, .slice none 0 0, .int .i32 0, .int .u8 0, .bool false] (CpR.arr ⟨a7, lS.length, c7, lS⟩) _ lC.length _ rfl rfl rfl rfl rfl Try.underlying39 info33 rfl (by omega) hI4.out.oC rfl (CpR.one ⟨a7, lS.length, c7, lS⟩) (by omega) (by omega) hI4.out.base ?_); intro v' w5 ho hk hn; have h2 := Lib.hid (hI4.out.comp rfl ho hk hn); clear ho hk hn)
            exact LP.mk h2.out (by omega) (by omega) (by rw [cntP_add]; simp only [cntS, List.map_nil, List.sum_nil] at *; omega) (by omega) (by rw [List.length_append]; simp; omega) (by simp) (by omega) hcur.out
          · have hz : ((depth : Int) == 0) = false := by simp; omega
            clear hd0
            go_upto_region 20 with fail
            go_upto_region 21 with (at_builtin; go_loud (refine app1n (w := W4) (.tmp 83) (.tmp 86) 39 33 w.heap.size 6 72 #[.pointer none, .slice none 0 0, .slice none 0 0, .int .i32 0, .int .u8 0, .bool false] (CpR.arr ⟨a7, lS.length, c7, lS⟩) _ lC.length _ rfl rfl rfl rfl rfl Try.underlying39 info33 rfl (by omega) hI4.out.oC rfl (CpR.one ⟨a7, lS.length, c7, lS⟩) (by omega) (by omega) hI4.out.base ?_); intro u6n w5 ho hk hn; have h2 := Lib.hid (hI4.out.comp rfl ho hk hn); clear ho hk hn)
            obtain ⟨a6, c6, hu6, -, -⟩ := own_shape h2.out.oC
            simp only [List.length_append, List.length_cons, List.length_nil, Nat.zero_add] at hu6
            subst hu6
            go_upto_region 22 with (at_builtin; go_loud (refine app1n (w := w5) (.tmp 88) (.tmp 91) 42 41 w.heap.size 1 24 #[.slice none 0 0] (CxR.arr ⟨a6, lC.length + 1, c6, lC ++ [⟨a7, lS.length, c7, lS⟩]⟩) _ lL.length _ rfl rfl rfl rfl rfl Try.underlying42 info41 rfl (by omega) h2.out.oL rfl (CxR.one _) (by omega) (by omega) h2.out.base ?_); intro u5n w6 ho hk hn; have h3 := Lib.hid (h2.out.list (by simp) ho hk hn); clear ho hk hn)
            obtain ⟨a5, c5, hu5, -, -⟩ := own_shape h3.out.oL
            simp only [List.length_append, List.length_cons, List.length_nil, Nat.zero_add] at hu5
            subst hu5
            have HP : ParseP w Pc A0 n c i (.returned (.slice a5 (lL.length + 1) c5)) w6 := h3.out.fin (i' + 1) (by omega) (by omega) (by rw [cntX_add, cntP_add]; simpa using (by omega : cntX lL + (cntP lC + cntS lS) ≤ (i' + 1) - i))
            replace HP := Lib.hid HP
            go_wp2_with fail
            go_ret
            exact HP.out
      · obtain rfl : i' = n := by omega
        go_wp2_with fail
        go_quiet (fail)
        go_upto_region 20 with fail
        refine wp_gen (fun W4 hW => ?_)
        have hI4 : Hid (PI w W4 Pc A0 i' c f u5 u6 u7 i' lL lC lS) := Lib.hid (by rw [hW]; exact hI.out.quiet (bdN (Below.refl _ Wo) _))
        clear hW hI e0 e1 ef
        obtain ⟨a7, c7, hu7, -, -⟩ := own_shape hI4.out.oS
        subst hu7
        go_upto_region 21 with (at_builtin; go_loud (refine app1n (w := W4) (.tmp 83) (.tmp 86) 39 33 w.heap.size 6 72 #[.pointer none, .slice none 0 0, .slice none 0 0, .int .i32 0, .int .u8 0, .bool false] (CpR.arr ⟨a7, lS.length, c7, lS⟩) _ lC.length _ rfl rfl rfl rfl rfl Try.underlying39 info33 rfl (by omega) hI4.out.oC rfl (CpR.one ⟨a7, lS.length, c7, lS⟩) (by omega) (by omega) hI4.out.base ?_); intro u6n w5 ho hk hn; have h2 := Lib.hid (hI4.out.comp rfl ho hk hn); clear ho hk hn)
        obtain ⟨a6, c6, hu6, -, -⟩ := own_shape h2.out.oC
        simp only [List.length_append, List.length_cons, List.length_nil, Nat.zero_add] at hu6
        subst hu6
        go_upto_region 22 with (at_builtin; go_loud (refine app1n (w := w5) (.tmp 88) (.tmp 91) 42 41 w.heap.size 1 24 #[.slice none 0 0] (CxR.arr ⟨a6, lC.length + 1, c6, lC ++ [⟨a7, lS.length, c7, lS⟩]⟩) _ lL.length _ rfl rfl rfl rfl rfl Try.underlying42 info41 rfl (by omega) h2.out.oL rfl (CxR.one _) (by omega) (by omega) h2.out.base ?_); intro u5n w6 ho hk hn; have h3 := Lib.hid (h2.out.list (by simp) ho hk hn); clear ho hk hn)
        obtain ⟨a5, c5, hu5, -, -⟩ := own_shape h3.out.oL
        simp only [List.length_append, List.length_cons, List.length_nil, Nat.zero_add] at hu5
        subst hu5
        have HP : ParseP w Pc A0 i' c i (.returned (.slice a5 (lL.length + 1) c5)) w6 := h3.out.fin i' (by omega) (by omega) (by rw [cntX_add, cntP_add]; simpa using (by omega : cntX lL + (cntP lC + cntS lS) ≤ i' - i))
        replace HP := Lib.hid HP
        go_wp2_with fail
        go_ret
        exact HP.out
end Go.Proofs.Ytnkkfihcabfkdaa


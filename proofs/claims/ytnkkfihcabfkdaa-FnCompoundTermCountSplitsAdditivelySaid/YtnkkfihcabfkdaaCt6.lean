/- zzParseTopCompound, the clone, the wrappers. -/
import Derived.Test.YtnkkfihcabfkdaaCt3
import Derived.Test.YtnkkfihcabfkdaaCt5
import Derived.Test.YtnkkfihcabfkdaaCpy
set_option linter.unusedVariables false
set_option linter.unusedSimpArgs false
namespace Go.Proofs.Ytnkkfihcabfkdaa
open Go.RowKit
set_option maxRecDepth 100000
set_option maxHeartbeats 4000000
theorem clone5_c (A : Option Addr) (n c : Nat) (f : Nat → Int) (w : World) (hn : n ≤ 1048576) (hnil : A = none → n = 0 ∧ c = 0) (h : Row .u8 w A n f) : Calls Try.prog 5 #[.slice A n c] w (CloneI .u8 w A n f) := by
  cases A with
  | none =>
    obtain ⟨rfl, rfl⟩ := hnil rfl
    have hq := fun W => Lib.run_eql_slice_nil (P := Try.prog) W 22 5 none 0 0 0 0 Try.underlying22
    go_enter Try.func5, Try.ntmps5
    go_wp2_with fail
    go_ret
    exact ⟨none, rfl, fun i hi => absurd hi (by omega), (fun x h => by cases h), Below.refl _ _⟩
  | some y =>
    have hmk := make_z (P := Try.prog) #[.int .u8 0] Try.underlying22 (show (Try.prog.info? 5).map (fun i => (i.zero.map (·.cells), i.size, i.bytes)) = some (some #[.int .u8 0], 1, 1) by kernel_rfl) n hn (by omega)
    simp only [Nat.mul_one] at hmk
    have hq := fun W => Lib.run_eql_slice_nil (P := Try.prog) W 22 5 (some y) n c 0 0 Try.underlying22
    have hb : Below w.heap.size w (w.alloc (.cells (madeCells #[.int .u8 0] n) 5)) := ba _ _
    have q1 := Lib.hid (h.after hb)
    have g1 := Lib.hid (heap_alloc_new w (.cells (madeCells #[.int .u8 0] n) 5))
    have hB := Lib.hid hb
    clear hb h hnil
    go_enter Try.func5, Try.ntmps5
    go_wp2_with (with_reducible refine wpList_copyRow rfl (.tmp 9) (.tmp 10) 22 22 rfl 5 Try.underlying22 (by kernel_rfl) .u8 w.heap.size n n c (some y) f #[.int .u8 0] 5 rfl rfl q1.out g1.out w hB.out (Nat.le_refl _) ?_; intro w1 hr hb1 hz1; replace hz1 := Lib.hid hz1; replace hr := Lib.hid hr; replace hb1 := Lib.hid hb1)
    go_ret
    refine ⟨_, rfl, hr.out, fun x hx => ?_, hb1.out⟩
    cases hx
    exact ⟨Nat.le_refl _, hz1.out⟩

def SmallB (w : World) (N : Nat) (e : Ending) (w' : World) : Prop := ∃ b : Bool, e = .returned (.bool b) ∧ w = w'
theorem zz4_c (A : Option Addr) (n c : Nat) (k : Int) (w : World) (hn : n ≤ maxLen) : Calls Try.prog 4 #[.slice A n c, .int .i64 k] w (SmallB w n) := by
  unfold maxLen at hn
  go_enter Try.func4, Try.ntmps4
  go_wp2_with fail
  all_goals (go_ret; exact ⟨_, rfl, rfl⟩)
theorem comp7_c (A : Option Addr) (n c : Nat) (ls : List SubR) (w : World) (hR : RdS w A n ls) (hs : ∀ s ∈ ls, SubOK w s) (hk : cntS ls ≤ 1000000) (hn : n ≤ maxLen) : Calls Try.prog 7 #[.agg (CpR.arr ⟨A, n, c, ls⟩)] w (RetN (cntS ls) w) := by
  have D : Hid (∀ w', Below w.heap.size w w' → Calls Try.prog 12 #[.agg (CpR.arr ⟨A, n, c, ls⟩)] w' (RetN (cntS ls) w')) := Lib.hid (fun w' hb => comp12_c A n c ls w' (hR.below hb) (fun s h => (hs s h).below hb) hk hn)
  clear hR hs
  go_enter Try.func7, Try.ntmps7
  go_upto_region 1 with fail
  refine wp_gen (fun W hW => ?_)
  have hbW : Below w.heap.size w W := by rw [hW]; exact ba _ _
  have hV : Hid (W.ownsRow w.heap.size 33 6 (.slice (some ⟨w.heap.size, 0, none⟩) 1 1) 1 (CpR.cells ⟨A, n, c, ls⟩)) := Lib.hid (by rw [hW]; exact World.ownsRow_lit _ (CpR.arr ⟨A, n, c, ls⟩) 1 (Nat.le_refl _) (by decide) rfl)
  clear hW
  replace D := Lib.hid (D.out W hbW)
  have e0 := hV.out.cellAt 0 (by omega); have e1 := hV.out.cellAt 1 (by omega); have e2 := hV.out.cellAt 2 (by omega); have e3 := hV.out.cellAt 3 (by omega); have e4 := hV.out.cellAt 4 (by omega); have e5 := hV.out.cellAt 5 (by omega)
  simp only [CpR.cells, CpR.arr, List.getElem?_cons_succ, List.getElem?_cons_zero] at e0 e1 e2 e3 e4 e5
  replace hbW := Lib.hid hbW
  go_wp2_with (go_at_call 12; (with_reducible refine D.out.mono ?_); rintro e w3 ⟨rfl, hb⟩; have hB4 := Lib.hid (hbW.out.trans (hb.mono hbW.out.size)); clear hb)
  go_ret
  exact ⟨rfl, hB4.out⟩
theorem cplx8_c (a : Option Addr) (n c : Nat) (ls : List CxR) (w : World) (h : XOK w a n c ls) (hk : cntX ls ≤ 1000000) : Calls Try.prog 8 #[.slice a n c] w (RetN (cntX ls) w) := by
  have D := Lib.hid (cplx13_c a n c ls w h hk)
  clear h
  go_enter Try.func8, Try.ntmps8
  go_wp2_with (go_at_call 13; (with_reducible refine D.out.mono ?_); rintro e w3 ⟨rfl, hb⟩; replace hb := Lib.hid hb)
  go_ret
  exact ⟨rfl, hb.out⟩
def TopP (w : World) (n : Nat) (e : Ending) (w' : World) : Prop := ∃ (a : Option Addr) (m c : Nat) (ls : List SubR) (Pc : Nat), e = .returned (.agg (CpR.arr ⟨a, m, c, ls⟩)) ∧ w'.ownsRow 0 49 3 (.slice a m c) m (flat SubR.cells ls) ∧ (∀ s ∈ ls, SubOK w' s) ∧ cntS ls ≤ n ∧ ls.length ≤ n
theorem storeCp {w : World} {P B : Nat} {xs : List Value} (h : w.ownsRow B 33 6 (.slice (some ⟨P, 0, none⟩) 1 1) 1 xs) (s : CpR) :
    Kp (fun b => b = P) w ((((((w.setCell ⟨P, 0, none⟩ (.pointer none)).setCell ⟨P, 1, none⟩ (.slice s.a s.n s.c)).setCell ⟨P, 2, none⟩ (.slice none 0 0)).setCell ⟨P, 3, none⟩ (.int .i32 0)).setCell ⟨P, 4, none⟩ (.int .u8 0)).setCell ⟨P, 5, none⟩ (.bool false)) := by
  have Z : ∀ (w1 : World) (j : Nat) (v : Value), Kp (fun b => b = P) w w1 → Kp (fun b => b = P) w (w1.setCell ⟨P, j, none⟩ v) := fun w1 j v h => h.set _ _ (.inl rfl)
  exact Z _ _ _ (Z _ _ _ (Z _ _ _ (Z _ _ _ (Z _ _ _ (Z _ _ _ (Kp.refl w))))))
theorem ownCp {w : World} {P B : Nat} {xs : List Value} (h : w.ownsRow B 33 6 (.slice (some ⟨P, 0, none⟩) 1 1) 1 xs) : ∀ j, j < 6 → ∃ v, w.cell? ⟨P, j, none⟩ = some v ∧ w.frozen? ⟨P, j, none⟩ = false := fun j hj => ⟨_, by rw [h.cellAt j (by omega)]; exact List.getElem?_eq_getElem (by rw [h.1]; omega), h.frozenAt j⟩
def LT (w : World) (Pc : Nat) (A : Option Addr) (n c : Nat) (f : Nat → Int) (i : Nat) (u3 : Value) (wr : World) : Prop := ∃ (i' : Nat) (lS : List SubR), PI w wr Pc A n c f (.slice none 0 0) (.slice none 0 0) u3 i' [] [] lS ∧ i ≤ i' ∧ i' ≤ n ∧ cntS lS ≤ i' - i ∧ lS.length ≤ i' - i
theorem LT.mk {w : World} {Pc : Nat} {A : Option Addr} {n c : Nat} {f : Nat → Int} {i i' : Nat} {u3 : Value} {wr : World} {lS : List SubR} {i0 : Nat} (h : PI w wr Pc A n c f (.slice none 0 0) (.slice none 0 0) u3 i' [] [] lS) (h1 : i ≤ i') (h2 : i' ≤ n) (h3 : cntS lS ≤ i' - i) (h6 : lS.length ≤ i' - i) (hlt : i0 < i') {w0 : World} (h0 : Cur w0 Pc A n c i0) : LT w Pc A n c f i u3 wr ∧ n - curOf wr Pc < n - curOf w0 Pc := ⟨⟨i', lS, h, h1, h2, h3, h6⟩, by rw [h.cur.of, h0.of]; omega⟩
def Top2 (w : World) (Pc n i : Nat) (e : Ending) (w' : World) : Prop := ∃ (a : Option Addr) (m c : Nat) (ls : List SubR), e = .returned (.agg (CpR.arr ⟨a, m, c, ls⟩)) ∧ w'.ownsRow 0 49 3 (.slice a m c) m (flat SubR.cells ls) ∧ (∀ s ∈ ls, SubOK w' s) ∧ cntS ls ≤ n - i ∧ ls.length ≤ n - i ∧ Kp (fun b => b = Pc) w w'
theorem top6_c (A0 : Option Addr) (n c : Nat) (f : Nat → Int) (Pc i : Nat) (w : World) (hn : n ≤ 65536) (hin : i ≤ n) (hR : RowK w A0 n f Pc) (hC : Cur w Pc A0 n c i) : Calls Try.prog 6 #[.pointer (some ⟨Pc, 0, none⟩)] w (Top2 w Pc n i) := by
  have hPc : Pc < w.heap.size := block_lt_of_cell hC.c0
  replace hR := Lib.hid hR; replace hC := Lib.hid hC
  go_enter Try.func6, Try.ntmps6
  go_upto_region 1 with fail
  refine wp_gen (fun W hW => ?_)
  have hbW : Below w.heap.size w W := by rw [hW]; exact ba _ _
  have hP : Hid (W.ownsRow w.heap.size 33 6 (.slice (some ⟨w.heap.size, 0, none⟩) 1 1) 1 (CpR.cells ⟨none, 0, 0, []⟩)) := Lib.hid (by rw [hW]; exact World.ownsRow_lit _ (CpR.arr ⟨none, 0, 0, []⟩) 1 (Nat.le_refl _) (by decide) rfl)
  have hWz : w.heap.size < W.heap.size := by rw [hW]; simp
  clear hW
  have k0 : Kp (fun _ => False) w W := Kp.of hbW
  have H0 : Hid (PI W W Pc A0 n c f (.slice none 0 0) (.slice none 0 0) (.slice none 0 0) i [] [] []) := Lib.hid ⟨hC.out.kp k0 (fun q => q), hR.out.kp k0 (fun _ q => q.elim), by omega, fun x hx => by have := hR.out.lt x hx; omega, World.ownsRow_nil _ _ _ _, World.ownsRow_nil _ _ _ _, World.ownsRow_nil _ _ _ _, (fun r hr => by simp at hr), (fun r hr => by simp at hr), (fun r hr => by simp at hr), Kp.refl _⟩
  have hKW : Hid (Kp (fun b => b = Pc) w W) := Lib.hid (Kp.of hbW)
  clear hbW k0 hC hR
  go_wp2_with fail
  go_loopw [3] (fun u3 wr => LT W Pc A0 n c f i u3 wr) (fun _ wr => n - curOf wr Pc)
  case atStart => exact ⟨i, [], H0.out, by omega, by omega, by simp [cntS], by simp⟩
  case round =>
    clear H0
    obtain ⟨i', lS, hI, hi0, hi1, hcnt, hl3⟩ := hrel
    obtain ⟨Wo, hWo⟩ : ∃ Wo, Wo = wr := ⟨_, rfl⟩
    subst hWo
    have hcur := Lib.hid hI.cur
    replace hI := Lib.hid hI
    have e0 := hI.out.cur.c0; have e1 := hI.out.cur.c1; have ef := hI.out.cur.f1
    by_cases hlt : i' < n
    · obtain ⟨x, hx, g⟩ := hI.out.row.row i' hlt
      have hgw := hI.out.row.wf i' hlt
      obtain ⟨op, hop⟩ : ∃ op, f i' % 5 = op := ⟨_, rfl⟩
      replace hx := Lib.hid hx
      rw [hx.out] at e0
      have j0 : (0 : Int) ≤ i' := by omega
      have j1 : (i' : Int) < n := by omega
      have b0 := hgw.1
      have b1 := hgw.2
      clear hgw
      go_wp2_with fail
      go_quiet (fail)
      go_wp2_with fail
      go_quiet (fail)
      go_upto_region 5 with fail
      clear e0 e1 ef g
      refine wp_gen (fun W4 hW => ?_)
      have hI4 : Hid (PI W W4 Pc A0 n c f (.slice none 0 0) (.slice none 0 0) u3 (i' + 1) [] [] lS) := Lib.hid (by rw [hW]; exact (hI.out.quiet (bdN (Below.refl _ Wo) _)).adv)
      clear hW hI
      have h04 : 0 ≤ op ∧ op ≤ 4 := by omega
      rw [hop]
      clear hop
      by_cases o0 : op = 0
      · subst o0
        go_wp2_with (first | (go_at_call 9; (with_reducible refine (leaf9_c _).mono ?_); rintro e w4 ⟨p, rfl, hb⟩; have hI5 := Lib.hid (hI4.out.quiet hb); clear hb) | (at_builtin; go_loud (refine app1n (w := w4) (.tmp 36) (.tmp 38) 26 49 W.heap.size 3 24 #[.nilIface, .int .i32 0, .int .i32 0] (SubR.arr ⟨53, p, 1⟩) _ lS.length _ rfl rfl rfl rfl rfl Try.underlying26 info49 rfl (by omega) hI5.out.oS rfl (SubR.one ⟨53, p, 1⟩) (by omega) (by omega) hI5.out.base ?_); intro v' w5 ho hk hn; have hI6 := Lib.hid (hI5.out.sub ⟨53, p, 1⟩ (.leaf _ rfl rfl) ho hk hn); clear ho hk hn))
        exact LT.mk hI6.out (by omega) (by omega) (by rw [cntS_add]; simp only; omega) (by rw [List.length_append]; simp; omega) (by omega) hcur.out
      · have t0 : (op == 0) = false := by simpa using o0
        by_cases o1 : op = 1
        · subst o1
          clear t0
          have IH := Lib.hid (fun w' (hR : RowK w' A0 n f Pc) (hC : Cur w' Pc A0 n c (i' + 1)) => (show Calls Try.prog 10 #[.pointer (some ⟨Pc, 0, none⟩), .int .i64 1] w' (ParseP w' Pc A0 n c (i' + 1)) from parse10_c A0 n c f Pc hn n (i' + 1) 1 w' (by omega) (by omega) (by omega) hR hC))
          go_upto_region 9 with (go_at_call 10; (with_reducible refine (IH.out _ hI4.out.row hI4.out.cur).mono ?_); rintro e w4 ⟨a', n', c', ls, i2, rfl, hGL, hc, hle1, hle2, hcu, hkp⟩; have hI5 := Lib.hid (hI4.out.call hkp hcu); have hG5 := Lib.hid (hGL.kp (Kp.refl (S := fun _ => False) w4) (fun _ q => q.elim) (O' := OO W (.slice none 0 0) (.slice none 0 0) u3) (fun b _ q => hI4.out.oo q)); have hoo := Lib.hid (fun b q => Nat.lt_of_lt_of_le (hI4.out.oo (b := b) q) hkp.size); clear hGL hkp hcu)
          clear IH
          go_wp2_with (first | (go_at_call 11; (with_reducible refine (is11_c _ _ _ _).mono ?_); rintro e w5 ⟨B, rfl, hB1, hB2, hb⟩; have hI6 := Lib.hid (hI5.out.quiet hb); have hs := Lib.hid (G.mk (hG5.out.kp (Kp.of (S := fun _ => False) hb) (fun _ q => q.elim) (fun _ _ q => q)) (fun q => by have := hoo.out B q; omega) hB2); clear hb hB2) | (at_builtin; go_loud (refine app1n (w := w5) (.tmp 44) (.tmp 47) 26 49 W.heap.size 3 24 #[.nilIface, .int .i32 0, .int .i32 0] (SubR.arr ⟨57, .pointer (some ⟨B, 0, none⟩), 1 + cntX ls⟩) _ lS.length _ rfl rfl rfl rfl rfl Try.underlying26 info49 rfl (by omega) hI6.out.oS rfl (SubR.one ⟨57, .pointer (some ⟨B, 0, none⟩), 1 + cntX ls⟩) (by omega) (by omega) hI6.out.base ?_); intro v' w6 ho hk hn; have hI7 := Lib.hid (hI6.out.sub _ hs.out ho hk hn); clear ho hk hn))
          exact LT.mk hI7.out (by omega) (by omega) (by rw [cntS_add]; simp only; omega) (by rw [List.length_append]; simp; omega) (by omega) hcur.out
        · have t1 : (op == 1) = false := by simpa using o1
          go_wp2_with fail
          exact LT.mk hI4.out (by omega) (by omega) (by omega) (by omega) (by omega) hcur.out
    · obtain rfl : i' = n := by omega
      go_wp2_with fail
      go_quiet (fail)
      go_upto_region 10 with fail
      refine wp_gen (fun W4 hW => ?_)
      have hI4 : Hid (PI W W4 Pc A0 i' c f (.slice none 0 0) (.slice none 0 0) u3 i' [] [] lS) := Lib.hid (by rw [hW]; exact hI.out.quiet (bdN (Below.refl _ Wo) _))
      clear hW hI e0 e1 ef
      obtain ⟨a7, c7, hu7, -, -⟩ := own_shape hI4.out.oS
      subst hu7
      have hP4 := Lib.hid (hI4.out.kp.own hP.out (fun b e q => by simp [Value.ownBlock] at e; omega))
      have hst := Lib.hid (storeCp hP4.out ⟨a7, lS.length, c7, lS⟩)
      obtain ⟨v0, c0, g0⟩ := ownCp hP4.out 0 (by omega); obtain ⟨v1, c1, g1⟩ := ownCp hP4.out 1 (by omega); obtain ⟨v2, c2, g2⟩ := ownCp hP4.out 2 (by omega); obtain ⟨v3, c3, g3⟩ := ownCp hP4.out 3 (by omega); obtain ⟨v4, c4, g4⟩ := ownCp hP4.out 4 (by omega); obtain ⟨v5, c5, g5⟩ := ownCp hP4.out 5 (by omega)
      go_wp2_with fail
      have HP : Top2 w Pc i' i (.returned (.agg (CpR.arr ⟨a7, lS.length, c7, lS⟩))) ((((((W4.setCell ⟨w.heap.size, 0, none⟩ (.pointer none)).setCell ⟨w.heap.size, 1, none⟩ (.slice a7 lS.length c7)).setCell ⟨w.heap.size, 2, none⟩ (.slice none 0 0)).setCell ⟨w.heap.size, 3, none⟩ (.int .i32 0)).setCell ⟨w.heap.size, 4, none⟩ (.int .u8 0)).setCell ⟨w.heap.size, 5, none⟩ (.bool false)) := by
        refine ⟨_, _, _, lS, rfl, own_base (hst.out.own hI4.out.oS (fun b e q => by have := (hI4.out.oS.lt b e).1; omega)) (Nat.zero_le _), fun s hs => ((hI4.out.gS s hs).kp hst.out (fun b q => .inl (by omega)) (fun _ _ q => q)).ok, hcnt, hl3, (hKW.out.trans hI4.out.kp).trans' hst.out (fun b q hb => by omega)⟩
      exact bodyPost_ret (v := .agg (CpR.arr ⟨a7, lS.length, c7, lS⟩)) (by simp [results, Try.results6, go_sem, c0, c1, c2, c3, c4, c5]) rfl HP
end Go.Proofs.Ytnkkfihcabfkdaa


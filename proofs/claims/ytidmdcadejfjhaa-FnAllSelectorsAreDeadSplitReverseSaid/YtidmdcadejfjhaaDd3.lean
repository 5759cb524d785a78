/- zzBuildComplex. -/
import Derived.Test.YtidmdcadejfjhaaDd2
set_option linter.unusedVariables false
set_option linter.unusedSimpArgs false
namespace Go.Proofs.Ytidmdcadejfjhaa
open Go.RowKit
set_option maxRecDepth 100000
set_option maxHeartbeats 4000000
theorem Key.mono {w0 w : World} {v : Value} {m m' : Nat} (h : Key w0 w v m) (hm : m ≤ m') : Key w0 w v m' := by
  obtain ⟨n, xs, h1, h2⟩ := h
  exact ⟨n, xs, by omega, h2⟩
def CplxP (w0 w : World) (m : Nat) (e : Ending) (w' : World) : Prop := ∃ (r : CxR) (c p j : Int) (d : Bool) (key : Value), e = .returned (.tuple #[.agg r.arr, .int .i64 c, .int .i64 p, .int .i64 j, .bool d, key]) ∧ GCx w' r ∧ Key w0 w' key (m + 20) ∧ KT 3 w w' ∧ Below w0.heap.size w0 w'
def LX (w0 w : World) (m : Nat) (N : Nat) (p j key comps dead q : Value) (wr : World) : Prop := ∃ (k : Nat) (p' j' : Int) (d : Bool) (ls : List CpR), k ≤ N ∧ q = .int .i64 k ∧ p = .int .i64 p' ∧ j = .int .i64 j' ∧ dead = .bool d ∧ Key w0 wr key (m + 1 + 4 * k) ∧ wr.ownsRow w.heap.size 84 6 comps k (flat CpR.cells ls) ∧ (∀ s ∈ ls, GCp wr s) ∧ KT 3 w wr ∧ Below w0.heap.size w0 wr ∧ (∃ x, wr.ownsRow w.heap.size 50 1 (.slice (some ⟨w.heap.size, 0, none⟩) 1 1) 1 [x])
theorem cplx14_c (A0 A1 A2 A3 : Option Addr) (n0 n1 n2 n3 c0 c1 c2 c3 : Nat) (f0 f1 f2 f3 : Nat → Int) (c p j : Int) (key : Value) (m : Nat) (w0 w : World) (h0 : Byt w0 A0 n0 f0) (h1 : Byt w0 A1 n1 f1) (h2 : Byt w0 A2 n2 f2) (h3 : Byt w0 A3 n3 f3) (hb : Below w0.heap.size w0 w) (hk : Key w0 w key m) (hm : m ≤ 10000) :
    Calls Try.prog 14 #[.slice A0 n0 c0, .slice A1 n1 c1, .slice A2 n2 c2, .slice A3 n3 c3, .int .i64 c, .int .i64 p, .int .i64 j, key] w (CplxP w0 w m) := by
  have C17 := Lib.hid (fun w' (hb : Below w0.heap.size w0 w') => at17_c A0 n0 c0 f0 c w' (h0.after hb))
  have C18 := Lib.hid (fun p j key m w' (hb : Below w0.heap.size w0 w') (hk : Key w0 w' key m) (hm : m ≤ 100000) => comp18_c A1 A2 A3 n1 n2 n3 c1 c2 c3 f1 f2 f3 p j key m w0 w' h1 h2 h3 hb hk hm)
  clear h0 h1 h2 h3
  obtain ⟨nk, xk, hnk, hk⟩ := hk
  replace hk := Lib.hid hk
  replace hb := Lib.hid hb
  go_enter Try.func14, Try.ntmps14
  go_upto_region 1 with fail
  refine wp_gen (fun W hW => ?_)
  have hbW : Below w.heap.size w W := by rw [hW]; exact ba _ _
  have hP : Hid (W.ownsRow w.heap.size 50 1 (.slice (some ⟨w.heap.size, 0, none⟩) 1 1) 1 (CxR.cells ⟨none, 0, 0, []⟩)) := Lib.hid (by rw [hW]; exact World.ownsRow_lit _ (CxR.arr ⟨none, 0, 0, []⟩) 1 (Nat.le_refl _) (by decide) rfl)
  clear hW
  replace hk := Lib.hid (own_below hk.out hbW)
  have hB := Lib.hid (hb.out.trans (hbW.mono hb.out.size))
  have hKT : Hid (KT 3 w W) := Lib.hid (KT.of hbW)
  have hwW := hbW.size
  have hw0 := hb.out.size
  clear hbW hb
  go_upto_region 2 with (go_at_call 17; (with_reducible refine (C17.out _ hB.out).mono ?_); rintro e w' ⟨x, rfl, hx, rfl⟩; obtain ⟨N, hN, hx4⟩ : ∃ N : Nat, N < 4 ∧ (x : Int) % 4 = N := ⟨x % 4, Nat.mod_lt _ (by omega), by omega⟩)
  rw [hx4]
  clear C17 hx4
  go_upto_region 3 with (at_builtin; go_loud (refine app1n (w := W) (.tmp 32) (.tmp 34) 51 3 w0.heap.size 1 8 #[.int .i64 0] #[.int .i64 N] _ nk _ rfl rfl rfl rfl rfl Try.underlying51 info3 rfl (by omega) hk.out rfl (int1 _) (by omega) (by omega) hB.out.size ?_); intro key1 W1 hk1 hkp hnew; replace hkp := Lib.hid hkp; replace hk1 := Lib.hid hk1; clear hnew)
  have hK1 : Hid (Key w0 W1 key1 (m + 1)) := Lib.hid ⟨nk + 1, _, by omega, hk1.out⟩
  have hBW : Below w0.heap.size W W1 := hkp.out.below hB.out.size (fun b e => (hk.out.lt b e).1)
  have hKT1 : Hid (KT 3 w W1) := Lib.hid (hKT.out.trans (KT.app hk.out hkp.out))
  replace hP := Lib.hid ((KT.app hk.out hkp.out).own hP.out (by decide))
  replace hB := Lib.hid (hB.out.trans hBW)
  have hw1 := hkp.out.size
  clear hBW hkp hk1 hk hKT
  have mk := make0_z (P := Try.prog) #[.pointer none, .slice none 0 0, .slice none 0 0, .int .i32 0, .int .u8 0, .bool false] Try.underlying48 info84 N (by omega) (by omega)
  go_upto_region 4 with fail
  clear mk
  refine wp_gen (fun W2 hW => ?_)
  have hO : Hid (W2.ownsRow w.heap.size 84 6 (.slice (some ⟨W1.heap.size, 0, none⟩) 0 N) 0 (flat CpR.cells [])) := Lib.hid (by rw [hW]; exact World.ownsRow_made _ _ _ (by omega) (by unfold maxLen; omega) (by rw [size_madeCells]))
  have hbW : Below W1.heap.size W1 W2 := by rw [hW]; exact ba _ _
  clear hW
  replace hP := Lib.hid (own_below hP.out hbW); replace hK1 := Lib.hid (hK1.out.below hbW); replace hB := Lib.hid (hB.out.trans (hbW.mono hB.out.size)); replace hKT1 := Lib.hid (hKT1.out.trans (KT.of hbW))
  clear hbW
  have hR : Hid (LX w0 w m N (.int .i64 p) (.int .i64 j) key1 (.slice (some ⟨W1.heap.size, 0, none⟩) 0 N) (.bool false) (.int .i64 0) W2) := Lib.hid ⟨0, p, j, false, [], by omega, rfl, rfl, rfl, rfl, hK1.out, hO.out, (fun s h => by simp at h), hKT1.out, hB.out, _, hP.out⟩
  go_wp2_with fail
  go_loopw [5, 6, 7, 23, 24, 25] (fun p j key comps dead q wr => LX w0 w m N p j key comps dead q wr) (fun _ _ _ _ _ q _ => N - (intOf q).toNat)
  case atStart => exact hR.out
  case round =>
    clear hR hK1 hO hKT1 hB hP
    obtain ⟨k, p', j', d, ls, hkN, rfl, rfl, rfl, rfl, hK, hO, hG, hKT, hB, xp, hPr⟩ := hrel
    obtain ⟨Wo, hWo⟩ : ∃ Wo, Wo = wr := ⟨_, rfl⟩
    subst hWo
    replace hPr := Lib.hid hPr
    replace hK := Lib.hid hK; replace hO := Lib.hid hO; replace hG := Lib.hid hG; replace hKT := Lib.hid hKT; replace hB := Lib.hid hB
    by_cases hlt : k < N
    · go_upto_region 9 with fail
      refine wp_gen (fun Wa hW => ?_)
      have hbW : Below Wo.heap.size Wo Wa := by rw [hW]; exact ba _ _
      have hV : Hid (Wa.ownsRow Wo.heap.size 84 6 (.slice (some ⟨Wo.heap.size, 0, none⟩) 1 1) 1 (CpR.cells ⟨none, 0, 0, []⟩)) := Lib.hid (by rw [hW]; exact World.ownsRow_lit _ (CpR.arr ⟨none, 0, 0, []⟩) 1 (Nat.le_refl _) (by decide) rfl)
      clear hW
      have hKa := Lib.hid (hK.out.below hbW); have hOa := Lib.hid (own_below hO.out hbW); have hGa := Lib.hid (fun s hs => (hG.out s hs).kt (KT.of (e := 84) hbW) (by decide) (by decide)); have hKTa := Lib.hid (hKT.out.trans (KT.of hbW)); have hBa := Lib.hid (hB.out.trans (hbW.mono hB.out.size)); have hPa := Lib.hid (own_below hPr.out hbW)
      have hcl := Lib.hid (fun b (e : u23.ownBlock = some b) => (hO.out.lt b e).2)
      have hwo := hKT.out.size
      clear hbW hK hO hG hKT hB hPr
      generalize Wo.heap.size = PV at *
      obtain ⟨v0, g0, f0⟩ := ownCp hV.out 0 (by omega)
      go_upto_region 11 with (go_at_call 18; (with_reducible refine (C18.out p' j' _ _ _ hBa.out hKa.out (by omega)).mono ?_); rintro e w1 ⟨r, j2, d2, key2, rfl, hr, hK2, hkt, hB2⟩; have hV2 := Lib.hid (hkt.own hV.out (by decide)); have hO2 := Lib.hid (hkt.own hOa.out (by decide)); have hG2 := Lib.hid (fun s hs => (hGa.out s hs).kt hkt (by decide) (by decide)); have hP2 := Lib.hid (hkt.own hPa.out (by decide)); have hKT2 := Lib.hid (hKTa.out.trans hkt); replace hr := Lib.hid hr; replace hK2 := Lib.hid hK2; replace hB2 := Lib.hid hB2; replace hkt := Lib.hid hkt; clear g0 f0; obtain ⟨v0, g0, f0⟩ := ownCp hV2.out 0 (by omega); obtain ⟨v1, g1, f1⟩ := ownCp hV2.out 1 (by omega); obtain ⟨v2, g2, f2⟩ := ownCp hV2.out 2 (by omega); obtain ⟨v3, g3, f3⟩ := ownCp hV2.out 3 (by omega); obtain ⟨v4, g4, f4⟩ := ownCp hV2.out 4 (by omega); obtain ⟨v5, g5, f5⟩ := ownCp hV2.out 5 (by omega))
      clear g0 f0 g1 f1 g2 f2 g3 f3 g4 f4 g5 f5
      have hst := storeCp hV2.out r
      have hpv : w.heap.size ≤ PV := by omega
      refine wp_gen (fun W3 hW => ?_)
      rw [← hW] at hst
      clear hW
      have hkt3 : KT 84 w1 W3 := hst.2.wide (fun b e => by subst e; exact Ty.of hV2.out _ rfl)
      have hV3 := Lib.hid hst.1
      have hO3 := Lib.hid (hst.2.own hO2.out (fun b e h => by have := hcl.out b e; omega))
      have hG3 := Lib.hid (fun s hs => (hG2.out s hs).kt hkt3 (by decide) (by decide))
      have hr3 := Lib.hid (hr.out.kt hkt3 (by decide) (by decide))
      have hK3 := Lib.hid (hK2.out.kt hkt3 (by decide))
      have hP3 := Lib.hid (hkt3.own hP2.out (by decide))
      have hKT3 : Hid (KT 3 w W3) := Lib.hid (Kp.kt hKT2.out hst.2 (fun b e => by omega))
      have hB3 := Lib.hid (hB2.out.trans (hst.2.below hB2.out.size (fun b e => by omega)))
      have hw3 := hKT3.out.size
      clear hst hkt3 hV2 hO2 hG2 hr hK2 hP2 hKT2 hB2 hkt hKa hOa hGa hKTa hBa hPa hV
      have e0 := hV3.out.cellAt 0 (by omega); have e1 := hV3.out.cellAt 1 (by omega); have e2 := hV3.out.cellAt 2 (by omega); have e3 := hV3.out.cellAt 3 (by omega); have e4 := hV3.out.cellAt 4 (by omega); have e5 := hV3.out.cellAt 5 (by omega)
      simp only [CpR.cells, CpR.arr, List.getElem?_cons_succ, List.getElem?_cons_zero] at e0 e1 e2 e3 e4 e5
      cases d2
      all_goals
        go_wp2_with (at_builtin; go_loud (refine app1n (w := W3) (.tmp 58) (.tmp 60) 48 84 w.heap.size 6 72 #[.pointer none, .slice none 0 0, .slice none 0 0, .int .i32 0, .int .u8 0, .bool false] r.arr _ k _ rfl rfl rfl rfl rfl Try.underlying48 info84 rfl (by omega) hO3.out rfl (CpR.one r) (by omega) (by omega) hw3 ?_); intro comps2 W5 hO5 hkp hnew; replace hkp := Lib.hid hkp; replace hO5 := Lib.hid hO5; clear hnew)
        have hkt := KT.app hO3.out hkp.out
        have RR : ∀ d', LX w0 w m N (.int .i64 (wrap64 (p' + 1))) (.int .i64 j2) key2 comps2 (.bool d') (.int .i64 ((k : Int) + 1)) W5 := fun d' => ⟨k + 1, _, _, d', ls ++ [r], by omega, by go_num, rfl, rfl, rfl, (hK3.out.kt hkt (by decide)).mono (by omega), by rw [← flat_add]; exact hO5.out, fun x hx => by
          rcases List.mem_append.1 hx with hx | hx
          · exact (hG3.out x hx).kt hkt (by decide) (by decide)
          · rw [List.mem_singleton] at hx; subst hx; exact hr3.out.kt hkt (by decide) (by decide), Kp.kt hKT3.out hkp.out (fun b e => (hO3.out.lt b e).1), hB3.out.trans (hkp.out.below hB3.out.size (fun b e => by have := (hO3.out.lt b e).1; omega)), _, hkt.own hP3.out (by decide)⟩
        exact ⟨RR _, by simp [intOf]; omega⟩
    · obtain rfl : k = N := by omega
      obtain ⟨a, c', hu, -, -⟩ := own_shape hO.out
      subst hu
      have h0 := hPr.out.stored 0 (.slice a k c')
      have hf := hPr.out.frozenAt 0
      have hc := hPr.out.cellAt 0 (by omega)
      simp only [List.getElem?_cons_zero] at hc
      have hst : Hid (Kp (fun b => b = w.heap.size) Wo (Wo.setCell ⟨w.heap.size, 0, none⟩ (.slice a k c'))) := Lib.hid (by have := Kp.grown h0.2; exact this.wide (fun b e => by simpa using e.symm))
      clear h0
      go_wp2_with fail
      have hkt : KT 50 Wo (Wo.setCell ⟨w.heap.size, 0, none⟩ (.slice a k c')) := hst.out.wide (fun b e => by subst e; exact Ty.of hPr.out _ rfl)
      have HP : CplxP w0 w m (.returned (.tuple #[.agg (CxR.arr ⟨a, k, c', ls⟩), .int .i64 (wrap64 (c + 1)), .int .i64 p', .int .i64 j', .bool d, u7])) (Wo.setCell ⟨w.heap.size, 0, none⟩ (.slice a k c')) := by
        refine ⟨_, _, _, _, _, _, rfl, ⟨own_base (hkt.own hO.out (by decide)) (Nat.zero_le _), fun s hs => (hG.out s hs).kt hkt (by decide) (by decide)⟩, (hK.out.kt hkt (by decide)).mono (by omega), Kp.kt hKT.out hst.out (fun b e => by omega), hB.out.trans (hst.out.below hB.out.size (fun b e => by omega))⟩
      exact bodyPost_ret (v := .tuple #[.agg (CxR.arr ⟨a, k, c', ls⟩), .int .i64 (wrap64 (c + 1)), .int .i64 p', .int .i64 j', .bool d, u7]) (by simp [results, Try.results14, go_sem, hc]) rfl HP
end Go.Proofs.Ytidmdcadejfjhaa

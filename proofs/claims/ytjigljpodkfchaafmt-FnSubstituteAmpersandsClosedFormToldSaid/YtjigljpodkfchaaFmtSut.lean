/- FnSubstituteAmpersandsClosedForm: the law's walk. -/
import Derived.Test.YtjigljpodkfchaaFmtSus
set_option linter.unusedVariables false
set_option linter.unusedSimpArgs false
namespace Go.Proofs.YtjigljpodkfchaaFmt
open Go.RowKit
set_option maxRecDepth 100000
set_option maxHeartbeats 40000000
theorem law3_c (c0 : Cm) (ham : c0.am ≤ 255) (na : Option Addr) (nc n : Nat) (hn0 : c0.nm.length = n) (gs : List (List Cm)) (n1 : Nat) (hg0 : gs.length = n1) (ga : Option Addr) (gc : Nat) (cs : List Cm) (n2 : Nat) (hc0 : cs.length = n2) (a : Option Addr) (cc : Nat) (st : Bool) (w : World) (h0 : RN w na c0.nm) (h1 : RX w ga gs) (h2 : RM w a cs) (hl0 : n ≤ maxLen) (hl1 : n1 ≤ maxLen) (hl2 : n2 ≤ maxLen) : Calls Tryf.prog 3 #[.agg #[.int .u8 c0.cb, .int .u8 c0.am, .slice na n nc], .slice ga n1 gc, .slice a n2 cc, .bool st] w (RetV (.bool true) w) := by
  have C4 := Lib.hid (fun W (hb : Below w.heap.size w W) => bytes4_c c0 n na nc hn0 gs n1 hg0 ga gc cs n2 hc0 a cc (.bool st) W (h0.after hb) (h1.after hb) (h2.after hb) hl0 hl1 hl2)
  have C5 := Lib.hid (fun (hF : BytF c0 gs cs) W (hb : Below w.heap.size w W) => bytes5_c c0 n na nc hn0 (by have := hF.1; omega) gs n1 hg0 (by have := hF.2.1; omega) hF.2.2.1 ga gc cs n2 hc0 (by have := hF.2.2.2.1; omega) hF.2.2.2.2 a cc W (h0.after hb) (h1.after hb) (h2.after hb))
  have C6 := Lib.hid (fun (hF : BytF c0 gs cs) W (hb : Below w.heap.size w W) => prem6_c c0 ham (.bool st) gs n1 hg0 (by have := hF.2.1; omega) hF.2.2.1 ga gc W (h1.after hb) na n nc)
  have C8 := Lib.hid (fun (hF : BytF c0 gs cs) W (hb : Below w.heap.size w W) => build8_c c0 c0.cb c0.am c0.nm n na nc rfl hn0 (by have := hF.1; omega) ham W (h0.after hb))
  have C9 := Lib.hid (fun (hF : BytF c0 gs cs) W (hb : Below w.heap.size w W) => build9_c gs ga gc n1 hg0 (by have := hF.2.1; omega) hF.2.2.1 W (h1.after hb))
  have C10 := Lib.hid (fun (hF : BytF c0 gs cs) W (hb : Below w.heap.size w W) => build10_c cs a cc n2 hc0 (by have := hF.2.2.2.1; omega) hF.2.2.2.2 W (h2.after hb))
  have C7 := Lib.hid (fun (hF : BytF c0 gs cs) (hP : PremF c0 gs) (r : CpR ByteArray) (hrk : r.key = c0.key) (pls : List (CxR ByteArray)) (pa : Option Addr) (pc : Nat) (hk : pls.map CxR.key = gs.map (List.map Cm.key)) (s : Int) (hs : s = 0 ∨ s = 1) (W : World) (base m : Nat) (v : Value) (xs : List Value) (h : GCp G0 (Ob v) W r) (hR : RCx G0 (Ob v) W pa pls) (hO : W.ownsRow base 40 6 v m xs) (hn : m ≤ 1048576) (hb : base ≤ W.heap.size) => sub7_c c0 r hrk ham hF.1 s hs gs n1 hg0 (by have := hF.2.1; omega) hF.2.2.1 hP pls pa pc hk W base m v xs h hR hO hn hb)
  have C12 := Lib.hid (fun (hF : BytF c0 gs cs) (hP : PremF c0 gs) (r : CpR SK) (Zs O : Nat → Prop) W (hb : Below w.heap.size w W) (hRG : RowG Zs O W r.a r.ls) (hnn : r.nn = 0) (hkey : r.ls.map SubR.k = subk c0.am (repM gs) c0.nm) => sub12_c r Zs O c0.am gs n1 hg0 (by have := hF.2.1; omega) hF.2.2.1 (by rw [← hg0]; exact hP.2.1) c0.nm n hn0 (by have := hF.1; omega) ham hP.2.2.2 W hRG hnn hkey ga gc (h1.after hb) na nc (h0.after hb))
  have C14 := Lib.hid (fun (hF : BytF c0 gs cs) (hP : PremF c0 gs) W (hb : Below w.heap.size w W) => rep14_c gs n1 hg0 (by have := hF.2.1; omega) (fun g hg => by
    by_cases h1 : gs.length = 1
    · have := hP.2.1 h1 g hg
      intro q
      rw [q] at this
      cases this
    · exact hP.2.2.1 h1 g hg) ga gc W (h1.after hb))
  have hM : maxLen = 9223372036854775807 := by decide
  rw [hM] at hl0 hl1 hl2
  clear hM
  have H2 := Lib.hid h2
  clear h0 h1 h2
  replace hc0 := Lib.hid hc0
  clear hg0
  replace hn0 := Lib.hid hn0
  obtain ⟨cb, hcb⟩ : ∃ y, c0.cb = y := ⟨_, rfl⟩
  obtain ⟨am, hame⟩ : ∃ y, c0.am = y := ⟨_, rfl⟩
  simp only [hcb, hame] at C4 C5 C6 C7 C8 C12
  rw [hame] at ham
  rw [hcb, hame]
  clear hcb hame
  have hwam := wk64 (x := (am : Int)) (by omega) (by omega)
  go_enter Tryf.func3, Tryf.ntmps3
  go_upto_region 1 with fail
  refine wp_gen (fun W hW => ?_)
  have bW : Hid (Below w.heap.size w W) := Lib.hid (by rw [hW]; exact ba _ _)
  have s0 : Seg W w.heap.size 0 [.int .u8 cb, .int .u8 am, .slice na n nc] := by rw [hW]; exact Seg.new _ _ _
  clear hW
  obtain ⟨e0, e1, e2⟩ := segs3' s0
  clear s0
  obtain ⟨P, hP⟩ : ∃ y, w.heap.size = y := ⟨_, rfl⟩
  rw [hP] at e0 e1 e2 ⊢
  clear hP
  go_upto_if 18 with (go_at_call 4; (with_reducible refine (C4.out _ bW.out).mono ?_); rintro e w4 ⟨b4, rfl, B4, hF⟩; replace e0 := ac B4 e0; replace e1 := ac B4 e1; replace e2 := ac B4 e2; replace B4 := Lib.hid (bW.out.trans (B4.mono bW.out.size)); replace hF := Lib.hid hF)
  cases b4
  · go_wp2
    go_ret
    exact ⟨rfl, B4.out⟩
  have hFF := Lib.hid (hF.out rfl)
  have hN := hFF.out
  obtain ⟨hb0, hb1, -, hb2, -⟩ := hN
  replace hb0 : n ≤ 1048576 := by rw [← hn0.out]; exact hb0
  replace hb2 : n2 ≤ 1048576 := by rw [← hc0.out]; exact hb2
  clear hF hb1
  go_upto_if 23 with (go_at_call 5; (with_reducible refine (C5.out hFF.out _ B4.out).mono ?_); rintro e w5 ⟨⟨z5, rfl⟩, B5⟩; replace e0 := ac B5 e0; replace e1 := ac B5 e1; replace e2 := ac B5 e2; replace B5 := Lib.hid (B4.out.trans (B5.mono B4.out.size)))
  by_cases hz5 : 1048576 < z5
  · go_wp2
    go_ret
    exact ⟨rfl, B5.out⟩
  go_upto_if 27 with (go_at_call 6; (with_reducible refine (C6.out hFF.out _ B5.out).mono ?_); rintro e w6 ⟨b6, rfl, B6, hP⟩; replace e0 := ac B6 e0; replace e1 := ac B6 e1; replace e2 := ac B6 e2; replace B6 := Lib.hid (B5.out.trans (B6.mono B5.out.size)); replace hP := Lib.hid hP)
  cases b6
  · go_wp2
    go_ret
    exact ⟨rfl, B6.out⟩
  have hPP := Lib.hid (hP.out rfl)
  clear hP hz5
  clear C4 C5 C6
  go_upto_if 31 with fail
  go_cut [10] (fun s wx => s = .int .u8 (stI st) ∧ w6 = wx)
  case first =>
    cases st
    · go_wp2
      go_meet
      exact ⟨rfl, rfl⟩
    · go_wp2
      go_meet
      exact ⟨rfl, rfl⟩
  case rest =>
    obtain ⟨rfl, rfl⟩ := hcut
    obtain ⟨s, hs⟩ : ∃ y, stI st = y := ⟨_, rfl⟩
    have hs01 : s = 0 ∨ s = 1 := by rw [← hs]; cases st; exact .inl rfl; exact .inr rfl
    rw [hs]
    replace hs := Lib.hid hs
    replace hs01 := Lib.hid hs01
    obtain ⟨W6, rfl⟩ : ∃ y, y = w6 := ⟨_, rfl⟩
    go_upto_if 45 with (first | (go_at_call 8; (with_reducible refine (C8.out hFF.out _ B6.out).mono ?_); rintro e w8 ⟨r, rfl, hrk, hr, B8⟩; replace e0 := ac B8 e0; replace e1 := ac B8 e1; replace e2 := ac B8 e2; have B8' := Lib.hid (B6.out.trans (B8.mono B6.out.size)); have z8 := B8.size; clear B8; replace hrk := Lib.hid hrk; replace hr := Lib.hid hr) | (go_at_call 9; (with_reducible refine (C9.out hFF.out _ B8'.out).mono ?_); rintro e w9 ⟨pa, pc, pls, rfl, hR, hpl, hpk, B9⟩; replace e0 := ac B9 e0; replace e1 := ac B9 e1; replace e2 := ac B9 e2; have z9 := B9.size; replace hr := Lib.hid (GCp.keep G0.keep _ _ _ _ _ hr.out (Kc.of_below B9) (fun _ _ q => q)); have B9' := Lib.hid (B8'.out.trans (B9.mono B8'.out.size)); clear B9; replace hR := Lib.hid hR; clear hpl; replace hpk := Lib.hid hpk) | (go_at_call 10; (with_reducible refine (C10.out hFF.out _ B9'.out).mono ?_); rintro e w10 ⟨va, vc, rs, rfl, hO, hrl, hG, hrsk, B10⟩; have e2a := e2; replace e0 := ac B10 e0; replace e1 := ac B10 e1; replace e2 := ac B10 e2; have z10 := B10.size; have zP9 := block_lt_of_cell e2a; have hOl := Lib.hid (fun b q => (hO.lt b q).1); replace hr := Lib.hid (GCp.keep G0.keep _ (Ob (.slice va n2 vc)) _ _ _ hr.out (Kc.of_below B10) (fun b hb q => by have := hOl.out b q; omega)); replace hR := Lib.hid (hR.out.keep G0.keep (O' := Ob (.slice va n2 vc)) (Kc.of_below B10) (fun b hb q => by have := hOl.out b q; omega)); have B10' := Lib.hid (B9'.out.trans (B10.mono B9'.out.size)); clear B10; have C7' := Lib.hid (C7.out hFF.out hPP.out r hrk.out pls pa pc hpk.out s hs01.out w10 _ n2 (.slice va n2 vc) _ hr.out hR.out hO hb2 z10); replace hO := Lib.hid hO; replace hG := Lib.hid hG; replace hrl := Lib.hid hrl; replace hrsk := Lib.hid hrsk) | (go_at_call 7; (go_loud (with_reducible refine C7'.out.mono ?_)); go_loud ( rintro e w11 ⟨oa, oc, r', Zs, rfl, hO', hcb', hnn', hkey', hRG', hKp', hnew'⟩; replace e0 := hKp'.cell e0 (fun q => by have := hOl.out P q; omega); replace e1 := hKp'.cell e1 (fun q => by have := hOl.out P q; omega); replace e2 := hKp'.cell e2 (fun q => by have := hOl.out P q; omega); have B11 := Lib.hid (B10'.out.trans (hKp'.below B10'.out.size (fun b q => by have := hOl.out b q; have := B9'.out.size; omega))); replace hO' := Lib.hid hO'; replace hcb' := Lib.hid hcb'; replace hkey' := Lib.hid hkey'; replace hRG' := Lib.hid hRG'; replace hKp' := Lib.hid hKp'; replace hnew' := Lib.hid hnew'; replace hnn' := Lib.hid hnn')))
    obtain ⟨ow, rfl⟩ : ∃ y, y = w11 := ⟨_, rfl⟩
    obtain ⟨go, goc, hgo, -, -, -, -⟩ := own_some hO'.out (by omega)
    injection hgo with hgo _ _
    subst hgo
    have hrow : Hid (∀ i r, rs[i]? = some r → Seg ow go (i * 6) r.cells ∧ GCp G0 (fun _ => False) ow r) := Lib.hid (fun i r hi => ⟨own_seg hO'.out (fun j u hj => by
      have hj6 : j < 6 := by have := (List.getElem?_eq_some_iff.1 hj).1; simpa [CpR.cells] using this
      have hil : i < n2 := by rw [← hrl.out]; exact (List.getElem?_eq_some_iff.1 hi).1
      rw [List.getElem?_append_left (by rw [flat_len CpR.cells 6 (fun _ => rfl), hrl.out]; omega), flat_at CpR.cells 6 (fun _ => rfl) rs i j r hi hj6]
      exact hj), GCp.keep G0.keep _ _ _ _ _ (hG.out r (List.mem_of_getElem? hi)) (Kc.of_kp hKp'.out (fun b _ q => .inl q)) (fun _ _ q => q.elim)⟩)
    have hlast : Hid (Seg ow go (n2 * 6) r'.cells) := Lib.hid (own_seg hO'.out (fun j u hj => by
      rw [List.getElem?_append_right (by rw [flat_len CpR.cells 6 (fun _ => rfl), hrl.out]; omega), flat_len CpR.cells 6 (fun _ => rfl), hrl.out, Nat.add_sub_cancel_left]
      exact hj))
    obtain ⟨N, hN⟩ : ∃ y, n2 + 1 = y := ⟨_, rfl⟩
    have hNI : (n2 : Int) + 1 = (N : Int) := by omega
    have hNn : n2 < N := by omega
    rw [hN]
    clear hO' hO hG hKp' hnew' hN hR hr hrk hpk C7 C7' C8 C9 C10 hOl zP9 e2a
    obtain ⟨ra, rc, rl, rx, rn, rxc, rcb⟩ := r'
    have hn0' : rn = 0 := hnn'.out
    subst hn0'
    have hcb2 : rcb = ecomb cb am s (rcombM gs) := hcb'.out
    have C12' := Lib.hid (fun W (hb : Below ow.heap.size ow W) => C12.out hFF.out hPP.out (⟨ra, rc, rl, rx, 0, rxc, rcb⟩ : CpR SK) Zs _ W (B11.out.trans (hb.mono B11.out.size)) (hRG'.out.keep (Kc.of_below hb) (fun _ _ q => q) (fun _ _ => Iff.rfl)) rfl hkey'.out)
    obtain ⟨mr, hmr⟩ : ∃ y, rl.length = y := ⟨_, rfl⟩
    have hls6 := segs6 (show Seg ow go (n2 * 6) [.pointer none, .slice ra rl.length rc, .slice rx 0 rxc, .int .i32 0, .int .u8 rcb, .bool false] from hlast.out)
    rw [hmr] at hls6
    replace C12' : Hid (∀ W, Below ow.heap.size ow W → Calls Tryf.prog 12 #[.agg #[.pointer none, .slice ra mr rc, .slice rx 0 rxc, .int .i32 0, .int .u8 rcb, .bool false], .int .u8 rcb, .int .i64 am, .slice ga n1 gc, .slice na n nc] W (RetV (.bool true) W)) := by rw [← hmr]; exact C12'
    have hls6 := Lib.hid hls6
    have C13 : Hid (∀ W, Calls Tryf.prog 13 #[.int .u8 cb, .int .i64 am, .bool st, .int .u8 (rcombM gs)] W (RetV (.int .u8 rcb) W)) := Lib.hid (fun W => by rw [hcb2, ← hs.out]; exact exp13_c cb am st _ W)
    clear hcb2 hmr hlast hkey' hRG' C12 hcb' hnn' hs
    have he := Lib.hid (And.intro e0 (And.intro e1 e2))
    clear e0 e1 e2
    go_wp2
    go_loopw [12] (fun v wr => ∃ i, i ≤ n2 ∧ v = .int .i64 i ∧ Below ow.heap.size ow wr) (fun v _ => n2 - (intOf v).toNat)
    case atStart => exact ⟨0, by omega, rfl, Below.refl _ _⟩
    case round =>
      obtain ⟨i, hi, rfl, hB⟩ := hrel
      obtain ⟨W1, rfl⟩ : ∃ y, y = wr := ⟨_, rfl⟩
      replace hB := Lib.hid hB
      have B1 : Hid (Below w.heap.size w W1) := Lib.hid (B11.out.trans (hB.out.mono B11.out.size))
      by_cases hlt : i < n2
      · obtain ⟨r, hr⟩ : ∃ r, rs[i]? = some r := ⟨_, List.getElem?_eq_getElem (by rw [hrl.out]; exact hlt)⟩
        obtain ⟨cm, hcm⟩ : ∃ r, cs[i]? = some r := ⟨_, List.getElem?_eq_getElem (by rw [hc0.out]; exact hlt)⟩
        obtain ⟨hs1, hG1⟩ := hrow.out i r hr
        obtain ⟨b, o, a', c', rfl, hs2, hRN, -, hcam⟩ := (H2.out.after B1.out) i cm hcm
        have hkk : r.key = cm.key := by
          have := congrArg (fun l => l[i]?) hrsk.out
          simp only [List.getElem?_map, hr, hcm, Option.map_some, Option.some.injEq] at this
          exact this
        have hcn := hFF.out.2.2.2.2 cm (List.mem_of_getElem? hcm)
        clear hr hcm
        have CE0 : ∀ d os, Calls Tryf.prog 11 #[.agg r.arr, .agg #[.int .u8 cm.cb, .int .u8 cm.am, .slice a' cm.nm.length c']] (Sort.grow (redrawn W1 d) os) (RetV (.bool true) (Sort.grow (redrawn W1 d) os)) := fun d os => cmp11_c r cm hkk hcam (fun _ => False) _ (GCp.keep G0.keep _ _ _ _ _ hG1 (Kc.of_below (hB.out.trans ((below_regrown W1 d os).mono hB.out.size))) (fun _ _ q => q)) hcn a' c' (hRN.after (below_regrown W1 d os))
        obtain ⟨ra', rcc, rl', rx', rn', rxc', rcb'⟩ := r
        obtain ⟨zr, hzr⟩ : ∃ y, rl'.length = y := ⟨_, rfl⟩
        have hs' : Seg W1 go (i * 6) [.pointer none, .slice ra' rl'.length rcc, .slice rx' rn' rxc', .int .i32 0, .int .u8 rcb', .bool false] := hs1.after hB.out
        rw [hzr] at hs'
        have CE : Hid (∀ d os, Calls Tryf.prog 11 #[.agg #[.pointer none, .slice ra' zr rcc, .slice rx' rn' rxc', .int .i32 0, .int .u8 rcb', .bool false], .agg #[.int .u8 cm.cb, .int .u8 cm.am, .slice a' cm.nm.length c']] (Sort.grow (redrawn W1 d) os) (RetV (.bool true) (Sort.grow (redrawn W1 d) os))) := Lib.hid (by rw [← hzr]; exact CE0)
        obtain ⟨f0, f1, f2, f3, f4, f5⟩ := segs6 hs'
        obtain ⟨k0, k1, k2⟩ := segs3 hs2
        have x0 := fun d os => cell_regrown f0 d os
        have x1 := fun d os => cell_regrown f1 d os
        have x2 := fun d os => cell_regrown f2 d os
        have x3 := fun d os => cell_regrown f3 d os
        have x4 := fun d os => cell_regrown f4 d os
        have x5 := fun d os => cell_regrown f5 d os
        have y0 := fun d os => cell_regrown k0 d os
        have y1 := fun d os => cell_regrown k1 d os
        have y2 := fun d os => cell_regrown k2 d os
        clear CE0 hs' hs1 hs2 hG1 hRN hkk f0 f1 f2 f3 f4 f5 k0 k1 k2 hzr
        have i0 : (0 : Int) ≤ i := by omega
        have i1 : (i : Int) < n2 := by omega
        have i2 : (i : Int) < N := by omega
        go_upto_region 17 with fail
        refine drawn_tail 9 (by kernel_rfl) (by kernel_rfl) (by kernel_rfl) (fun Q hQ => ?_)
        simp only [List.take_succ_cons, List.take_zero, List.drop_succ_cons, List.drop_zero]
        repeat (quiet_step (exact Calls.regrown_of (CE.out _ _)))
        refine wpQuiet_nil ?_
        intro W6 hw
        have b6 : Hid (Below W1.heap.size W1 W6) := Lib.hid (by
          obtain ⟨⟨d, os⟩, rfl⟩ := hw
          exact below_regrown _ d os)
        clear hw x0 x1 x2 x3 x4 x5 y0 y1 y2
        have bw6 := Lib.hid (B1.out.trans (b6.out.mono B1.out.size))
        go_wp2
        go_roundw
        case rel => exact ⟨i + 1, by omega, by go_num, hB.out.trans (b6.out.mono hB.out.size)⟩
        case measure => simp [intOf]; omega
      · obtain rfl : i = n2 := by omega
        obtain ⟨f0, f1, f2, f3, f4, f5⟩ := hls6.out
        obtain ⟨e0, e1, e2⟩ := he.out
        have x0 := fun d os => cell_regrown (ac hB.out f0) d os
        have x1 := fun d os => cell_regrown (ac hB.out f1) d os
        have x2 := fun d os => cell_regrown (ac hB.out f2) d os
        have x3 := fun d os => cell_regrown (ac hB.out f3) d os
        have x4 := fun d os => cell_regrown (ac hB.out f4) d os
        have x5 := fun d os => cell_regrown (ac hB.out f5) d os
        have y0 := fun d os => cell_regrown (ac hB.out e0) d os
        have y1 := fun d os => cell_regrown (ac hB.out e1) d os
        have y2 := fun d os => cell_regrown (ac hB.out e2) d os
        clear f0 f1 f2 f3 f4 f5 e0 e1 e2
        have CA : Hid (∀ d os, Calls Tryf.prog 14 #[.slice ga n1 gc] (Sort.grow (redrawn W1 d) os) (RetV (.int .u8 (rcombM gs)) (Sort.grow (redrawn W1 d) os))) := Lib.hid (fun d os => C14.out hFF.out hPP.out _ (B1.out.trans ((below_regrown W1 d os).mono B1.out.size)))
        have CB : Hid (∀ d os, Calls Tryf.prog 12 #[.agg #[.pointer none, .slice ra mr rc, .slice rx 0 rxc, .int .i32 0, .int .u8 rcb, .bool false], .int .u8 rcb, .int .i64 am, .slice ga n1 gc, .slice na n nc] (Sort.grow (redrawn W1 d) os) (RetV (.bool true) (Sort.grow (redrawn W1 d) os))) := Lib.hid (fun d os => C12'.out _ (hB.out.trans ((below_regrown W1 d os).mono hB.out.size)))
        have i0 : (0 : Int) ≤ i := by omega
        have i2 : (i : Int) < N := by omega
        go_upto_region 19 with fail
        refine drawn_tail 17 (by kernel_rfl) (by kernel_rfl) (by kernel_rfl) (fun Q hQ => ?_)
        simp only [List.take_succ_cons, List.take_zero, List.drop_succ_cons, List.drop_zero]
        repeat (quiet_step (first | exact Calls.regrown_of (CA.out _ _) | exact Calls.regrown_of (C13.out _) | exact Calls.regrown_of (CB.out _ _)))
        refine wpQuiet_nil ?_
        intro W6 hw
        have b6 : Hid (Below W1.heap.size W1 W6) := Lib.hid (by
          obtain ⟨⟨d, os⟩, rfl⟩ := hw
          exact below_regrown _ d os)
        clear hw x0 x1 x2 x3 x4 x5 y0 y1 y2
        have bw6 := Lib.hid (B1.out.trans (b6.out.mono B1.out.size))
        go_wp2
        go_ret
        exact ⟨rfl, bw6.out⟩
end Go.Proofs.YtjigljpodkfchaaFmt

/- FnSubstituteAmpersandsClosedForm: equality of built and given selectors. -/
import Derived.Test.YtjigljpodkfchaaFmtSup
set_option linter.unusedVariables false
set_option linter.unusedSimpArgs false
namespace Go.Proofs.YtjigljpodkfchaaFmt
open Go.RowKit
set_option maxRecDepth 100000
set_option maxHeartbeats 4000000
theorem nmAt_of {O : Nat → Prop} {w : World} {a : Option Addr} {ls : List (SubR ByteArray)} (h : RSub G0 O w a ls) : NmAt w a 0 (ls.map SubR.k) := fun i nm hi => by
  rw [List.getElem?_map] at hi
  cases hs : ls[i]? with
  | none => rw [hs] at hi; cases hi
  | some s =>
    rw [hs] at hi
    injection hi with hi
    subst hi
    obtain ⟨g, h1, -, h3, h4, B, h5, -, h6, -⟩ := h i s hs
    refine ⟨g, B, h1, ?_, by simpa using h6 0 _ rfl⟩
    rw [Nat.zero_add]
    obtain ⟨t, p, k⟩ := s
    simp only at h4 h5
    subst h4
    subst h5
    exact h3
theorem cmp11_c (r : CpR ByteArray) (cm : Cm) (hk : r.key = cm.key) (ham : cm.am ≤ 255) (O : Nat → Prop) (w : World) (h : GCp G0 O w r) (hl : cm.nm.length ≤ 1048576) (na : Option Addr) (nc : Nat) (hN : RN w na cm.nm) : Calls Tryf.prog 11 #[.agg r.arr, .agg #[.int .u8 cm.cb, .int .u8 cm.am, .slice na cm.nm.length nc]] w (RetV (.bool true) w) := by
  obtain ⟨a, c, ls, nx, nn, ncx, cb⟩ := r
  obtain ⟨cb', am, nm⟩ := cm
  simp only [CpR.key, Cm.key, CK.mk.injEq] at hk
  obtain ⟨rfl, rfl, rfl⟩ := hk
  simp only at ham hl hN
  obtain ⟨m, hm⟩ : ∃ y, ls.length = y := ⟨_, rfl⟩
  have hm2 : (ls.map SubR.k).length = m := by rw [List.length_map]; exact hm
  rw [hm2] at hl
  have C25 : Hid (∀ W, Below w.heap.size w W → Calls Tryf.prog 25 #[.slice a m c, .int .i64 0, .slice na m nc] W (RetV (.bool true) W)) := Lib.hid (fun W hb => names25_c a m c 0 (ls.map SubR.k) m hm2 na nc (by omega) (by omega) W (nmAt_of (h.1.keep G0.keep (Kc.of_below hb) (fun _ _ q => q))) (hN.after hb))
  show Calls Tryf.prog 11 #[.agg #[.pointer none, .slice a ls.length c, .slice nx nn ncx, .int .i32 0, .int .u8 cb, .bool false], .agg #[.int .u8 cb, .int .u8 nn, .slice na (ls.map SubR.k).length nc]] w _
  rw [hm2, hm]
  clear h hN hm hm2
  have hw := wk64 (x := (nn : Int)) (by omega) (by omega)
  go_enter Tryf.func11, Tryf.ntmps11
  go_upto_region 1 with fail
  refine wp_gen (fun W hW => ?_)
  have bW : Hid (Below w.heap.size w W) := Lib.hid (by rw [hW]; exact (ba _ _).alloc (by simp) _)
  have s0 : Seg W w.heap.size 0 [.pointer none, .slice a m c, .slice nx nn ncx, .int .i32 0, .int .u8 cb, .bool false] := by rw [hW]; exact (Seg.new _ _ _).after (ba _ _)
  have s1 : Seg W (w.heap.size + 1) 0 [.int .u8 cb, .int .u8 nn, .slice na m nc] := by
    rw [hW]
    have := Seg.new (w.alloc (.cells #[.pointer none, .slice a m c, .slice nx nn ncx, .int .i32 0, .int .u8 cb, .bool false] 40)) [.int .u8 cb, .int .u8 nn, .slice na m nc] 24
    simpa using this
  clear hW
  obtain ⟨d0, d1, d2, d3, d4, d5⟩ := segs6 s0
  obtain ⟨e0, e1, e2⟩ := segs3' s1
  simp only [Nat.zero_add] at d0 d1 d2 d3 d4 d5
  clear s0 s1
  go_wp2_with (go_at_call 25; (with_reducible refine (C25.out _ bW.out).mono ?_); rintro e w7 ⟨rfl, b7⟩; replace b7 := Lib.hid b7)
  go_ret
  exact ⟨rfl, bW.out.trans (b7.out.mono bW.out.size)⟩
theorem cx41_c (x : CxR ByteArray) (g : List Cm) (hk : x.key = g.map Cm.key) (hg : g.length ≤ 1048576) (hin : ∀ c ∈ g, c.nm.length ≤ 1048576) (O : Nat → Prop) (w : World) (h : GCx G0 O w x) (ga : Option Addr) (gc : Nat) (hM : RM w ga g) : Calls Tryf.prog 41 #[.agg x.arr, .agg #[.slice ga g.length gc]] w (RetV (.bool true) w) := by
  obtain ⟨a, c, ls⟩ := x
  have hk' : ls.map CpR.key = g.map Cm.key := hk
  have hlen : g.length = ls.length := by have := congrArg List.length hk'; rw [List.length_map, List.length_map] at this; exact this.symm
  obtain ⟨m, hm⟩ : ∃ y, ls.length = y := ⟨_, rfl⟩
  obtain ⟨h, -⟩ := h
  simp only at h
  show Calls Tryf.prog 41 #[.agg #[.slice a ls.length c], .agg #[.slice ga g.length gc]] w _
  rw [hlen, hm] at hg
  rw [hlen, hm]
  replace hlen := hlen.trans hm
  replace h := Lib.hid h
  replace hM := Lib.hid hM
  replace hk := Lib.hid hk'
  clear hk'
  replace hin := Lib.hid hin
  replace hlen := Lib.hid hlen
  replace hm := Lib.hid hm
  go_enter Tryf.func41, Tryf.ntmps41
  go_upto_region 1 with fail
  refine wp_gen (fun W hW => ?_)
  have bW : Hid (Below w.heap.size w W) := Lib.hid (by rw [hW]; exact (ba _ _).alloc (by simp) _)
  have d0 : W.cell? ⟨w.heap.size, 0, none⟩ = some (.slice a m c) := by rw [hW]; simp [go_sem]
  have e0 : W.cell? ⟨w.heap.size + 1, 0, none⟩ = some (.slice ga m gc) := by rw [hW]; simp [go_sem]
  clear hW
  obtain ⟨P, hP⟩ : ∃ y, w.heap.size = y := ⟨_, rfl⟩
  obtain ⟨Q', hQ'⟩ : ∃ y, P + 1 = y := ⟨_, rfl⟩
  rw [hP, hQ'] at e0
  rw [hP] at d0
  rw [hP, hQ']
  clear hP hQ'
  go_wp2
  go_loopw [5] (fun v wr => ∃ i, i ≤ m ∧ v = .int .i64 i ∧ Below W.heap.size W wr) (fun v _ => m - (intOf v).toNat)
  case atStart => exact ⟨0, by omega, rfl, Below.refl _ _⟩
  case round =>
    obtain ⟨i, hi, rfl, hB⟩ := hrel
    obtain ⟨W1, rfl⟩ : ∃ y, y = wr := ⟨_, rfl⟩
    replace hB := Lib.hid hB
    have d0' := ac hB.out d0
    have e0' := ac hB.out e0
    clear d0 e0
    have B1 : Hid (Below w.heap.size w W1) := Lib.hid (bW.out.trans (hB.out.mono bW.out.size))
    by_cases hlt : i < m
    · obtain ⟨r, hr⟩ : ∃ r, ls[i]? = some r := ⟨_, List.getElem?_eq_getElem (by rw [hm.out]; exact hlt)⟩
      obtain ⟨cm, hcm⟩ : ∃ r, g[i]? = some r := ⟨_, List.getElem?_eq_getElem (by rw [hlen.out]; exact hlt)⟩
      obtain ⟨g1, rfl, -, hs, hG⟩ := (h.out.keep G0.keep (Kc.of_below B1.out) (fun _ _ q => q)) i r hr
      obtain ⟨b, o, a', c', rfl, hs2, hRN, -, ham⟩ := (hM.out.after B1.out) i cm hcm
      have hkk : r.key = cm.key := by
        have := congrArg (fun l => l[i]?) hk.out
        simp only [List.getElem?_map, hr, hcm, Option.map_some, Option.some.injEq] at this
        exact this
      have hcn := hin.out cm (List.mem_of_getElem? hcm)
      clear hr hcm
      have CE0 : ∀ d os, Calls Tryf.prog 11 #[.agg r.arr, .agg #[.int .u8 cm.cb, .int .u8 cm.am, .slice a' cm.nm.length c']] (Sort.grow (redrawn W1 d) os) (RetV (.bool true) (Sort.grow (redrawn W1 d) os)) := fun d os => cmp11_c r cm hkk ham O _ (GCp.keep G0.keep _ _ _ _ _ hG (Kc.of_below (below_regrown W1 d os)) (fun _ _ q => q)) hcn a' c' (hRN.after (below_regrown W1 d os))
      obtain ⟨ra, rcc, rl, rx, rn, rxc, rcb⟩ := r
      obtain ⟨zr, hzr⟩ : ∃ y, rl.length = y := ⟨_, rfl⟩
      have hs' : Seg W1 g1 (i * 6) [.pointer none, .slice ra rl.length rcc, .slice rx rn rxc, .int .i32 0, .int .u8 rcb, .bool false] := hs
      rw [hzr] at hs'
      have CE : Hid (∀ d os, Calls Tryf.prog 11 #[.agg #[.pointer none, .slice ra zr rcc, .slice rx rn rxc, .int .i32 0, .int .u8 rcb, .bool false], .agg #[.int .u8 cm.cb, .int .u8 cm.am, .slice a' cm.nm.length c']] (Sort.grow (redrawn W1 d) os) (RetV (.bool true) (Sort.grow (redrawn W1 d) os))) := Lib.hid (by rw [← hzr]; exact CE0)
      obtain ⟨f0, f1, f2, f3, f4, f5⟩ := segs6 hs'
      obtain ⟨k0, k1, k2⟩ := segs3 hs2
      have x0 := fun d os => cell_regrown f0 d os
      have x1 := fun d os => cell_regrown f1 d os
      have x2 := fun d os => cell_regrown f2 d os
      have x3 := fun d os => cell_regrown f3 d os
      have x4 := fun d os => cell_regrown f4 d os
      have x5 := fun d os => cell_regrown f5 d os
      have y0 := fun d os => cell_regrown k0 d os
      have y1 := fun d os => cell_regrown k1 d os
      have y2 := fun d os => cell_regrown k2 d os
      have y3 := fun d os => cell_regrown d0' d os
      have y4 := fun d os => cell_regrown e0' d os
      clear CE0 hs hs' hs2 hG hRN hkk f0 f1 f2 f3 f4 f5 k0 k1 k2 hzr
      have i0 : (0 : Int) ≤ i := by omega
      have i1 : (i : Int) < m := by omega
      go_upto_region 6 with fail
      refine drawn_tail 11 (by kernel_rfl) (by kernel_rfl) (by kernel_rfl) (fun Q hQ => ?_)
      simp only [List.take_succ_cons, List.take_zero, List.drop_succ_cons, List.drop_zero]
      repeat (quiet_step (exact Calls.regrown_of (CE.out _ _)))
      refine wpQuiet_nil ?_
      intro W6 hw
      have b6 : Hid (Below W1.heap.size W1 W6) := Lib.hid (by
        obtain ⟨⟨d, os⟩, rfl⟩ := hw
        exact below_regrown _ d os)
      clear hw x0 x1 x2 x3 x4 x5 y0 y1 y2 y3 y4
      have bw6 := Lib.hid (B1.out.trans (b6.out.mono B1.out.size))
      go_wp2
      go_roundw
      case rel => exact ⟨i + 1, by omega, by go_num, hB.out.trans (b6.out.mono hB.out.size)⟩
      case measure => simp [intOf]; omega
    · obtain rfl : i = m := by omega
      go_wp2
      go_ret
      exact ⟨rfl, B1.out⟩
theorem cxs34_c (ls : List (CxR ByteArray)) (gs : List (List Cm)) (hk : ls.map CxR.key = gs.map (List.map Cm.key)) (n : Nat) (hn : ls.length = n) (hn2 : n ≤ 1048576) (hin : ∀ g ∈ gs, g.length ≤ 1048576 ∧ ∀ c ∈ g, c.nm.length ≤ 1048576) (O : Nat → Prop) (w : World) (a : Option Addr) (c : Nat) (h : RCx G0 O w a ls) (ga : Option Addr) (gc : Nat) (hX : RX w ga gs) : Calls Tryf.prog 34 #[.slice a n c, .slice ga n gc] w (RetV (.bool true) w) := by
  have hlen : gs.length = n := by have := congrArg List.length hk; rw [List.length_map, List.length_map] at this; omega
  replace h := Lib.hid h
  replace hX := Lib.hid hX
  replace hk := Lib.hid hk
  replace hin := Lib.hid hin
  replace hlen := Lib.hid hlen
  replace hn := Lib.hid hn
  go_enter Tryf.func34, Tryf.ntmps34
  go_wp2
  go_loopw [5] (fun v wr => ∃ i, i ≤ n ∧ v = .int .i64 i ∧ Below w.heap.size w wr) (fun v _ => n - (intOf v).toNat)
  case atStart => exact ⟨0, by omega, rfl, Below.refl _ _⟩
  case round =>
    obtain ⟨i, hi, rfl, hB⟩ := hrel
    obtain ⟨W1, rfl⟩ : ∃ y, y = wr := ⟨_, rfl⟩
    replace hB := Lib.hid hB
    by_cases hlt : i < n
    · obtain ⟨r, hr⟩ : ∃ r, ls[i]? = some r := ⟨_, List.getElem?_eq_getElem (by rw [hn.out]; exact hlt)⟩
      obtain ⟨cm, hcm⟩ : ∃ r, gs[i]? = some r := ⟨_, List.getElem?_eq_getElem (by rw [hlen.out]; exact hlt)⟩
      obtain ⟨g1, rfl, -, hs, hG⟩ := (h.out.keep G0.keep (Kc.of_below hB.out) (fun _ _ q => q)) i r hr
      obtain ⟨b, o, a', c', rfl, hs2, hRN, -⟩ := (hX.out.after hB.out) i cm hcm
      have hkk : r.key = cm.map Cm.key := by
        have := congrArg (fun l => l[i]?) hk.out
        simp only [List.getElem?_map, hr, hcm, Option.map_some, Option.some.injEq] at this
        exact this
      obtain ⟨hcn1, hcn2⟩ := hin.out cm (List.mem_of_getElem? hcm)
      clear hr hcm
      have CE0 : ∀ d os, Calls Tryf.prog 41 #[.agg r.arr, .agg #[.slice a' cm.length c']] (Sort.grow (redrawn W1 d) os) (RetV (.bool true) (Sort.grow (redrawn W1 d) os)) := fun d os => cx41_c r cm hkk hcn1 hcn2 O _ (GCx.keep G0.keep _ _ _ _ _ hG (Kc.of_below (below_regrown W1 d os)) (fun _ _ q => q)) a' c' (hRN.after (below_regrown W1 d os))
      obtain ⟨ra, rcc, rl⟩ := r
      obtain ⟨zr, hzr⟩ : ∃ y, rl.length = y := ⟨_, rfl⟩
      simp only at hs
      rw [hzr] at hs
      have CE : Hid (∀ d os, Calls Tryf.prog 41 #[.agg #[.slice ra zr rcc], .agg #[.slice a' cm.length c']] (Sort.grow (redrawn W1 d) os) (RetV (.bool true) (Sort.grow (redrawn W1 d) os))) := Lib.hid (by rw [← hzr]; exact CE0)
      have x0 := fun d os => cell_regrown hs d os
      have x1 := fun d os => cell_regrown hs2 d os
      clear CE0 hs hs2 hG hRN hkk hzr
      have i0 : (0 : Int) ≤ i := by omega
      have i1 : (i : Int) < n := by omega
      go_upto_region 6 with fail
      refine drawn_tail 9 (by kernel_rfl) (by kernel_rfl) (by kernel_rfl) (fun Q hQ => ?_)
      simp only [List.take_succ_cons, List.take_zero, List.drop_succ_cons, List.drop_zero]
      repeat (quiet_step (exact Calls.regrown_of (CE.out _ _)))
      refine wpQuiet_nil ?_
      intro W6 hw
      have b6 : Hid (Below W1.heap.size W1 W6) := Lib.hid (by
        obtain ⟨⟨d, os⟩, rfl⟩ := hw
        exact below_regrown _ d os)
      clear hw x0 x1
      have bw6 := Lib.hid (hB.out.trans (b6.out.mono hB.out.size))
      go_wp2
      go_roundw
      case rel => exact ⟨i + 1, by omega, by go_num, bw6.out⟩
      case measure => simp [intOf]; omega
    · obtain rfl : i = n := by omega
      go_wp2
      go_ret
      exact ⟨rfl, hB.out⟩
theorem isl26_c (Z : Nat) (s1 s2 : Value) (ls : List (CxR ByteArray)) (gs : List (List Cm)) (hk : ls.map CxR.key = gs.map (List.map Cm.key)) (n : Nat) (hn : ls.length = n) (hn2 : n ≤ 1048576) (hin : ∀ g ∈ gs, g.length ≤ 1048576 ∧ ∀ c ∈ g, c.nm.length ≤ 1048576) (O : Nat → Prop) (w : World) (a : Option Addr) (c : Nat) (hs : Seg w Z 0 [.slice a n c, s1, s2, .int .u8 2]) (h : RCx G0 O w a ls) (ga : Option Addr) (gc : Nat) (hX : RX w ga gs) : Calls Tryf.prog 26 #[.agg #[.iface 116 (.pointer (some ⟨Z, 0, none⟩)), .int .i32 0, .int .i32 0], .slice ga n gc] w (RetV (.bool true) w) := by
  have C32 := Lib.hid (fun W (hb : Below w.heap.size w W) => kind32_1 Z (.slice a n c) s1 s2 W (hs.after hb))
  have C35 := Lib.hid (fun W (hb : Below w.heap.size w W) => list35_c Z a n c W (by simpa using (hs.after hb) 0 _ rfl))
  have C34 := Lib.hid (fun W (hb : Below w.heap.size w W) => cxs34_c ls gs hk n hn hn2 hin O W a c (h.keep G0.keep (Kc.of_below hb) (fun _ _ q => q)) ga gc (hX.after hb))
  clear h hX hs hin hk hn
  go_enter Tryf.func26, Tryf.ntmps26
  go_upto_region 1 with fail
  refine wp_gen (fun W hW => ?_)
  have bW : Hid (Below w.heap.size w W) := Lib.hid (by rw [hW]; exact ba _ _)
  have s0 : Seg W w.heap.size 0 [.iface 116 (.pointer (some ⟨Z, 0, none⟩)), .int .i32 0, .int .i32 0] := by rw [hW]; exact Seg.new _ _ _
  clear hW
  obtain ⟨e0, e1, e2⟩ := segs3' s0
  clear s0
  go_upto_region 3 with (go_at_call 32; (with_reducible refine (C32.out _ bW.out).mono ?_); rintro e w5 ⟨rfl, b5⟩; (have e0' := ac b5 e0); (have e1' := ac b5 e1); (have e2' := ac b5 e2); have b5' := Lib.hid (bW.out.trans (b5.mono bW.out.size)); clear b5)
  go_wp2_with (first | (go_at_call 35; (with_reducible refine (C35.out _ b5'.out).mono ?_); rintro e w6 ⟨rfl, b6⟩; have b6' := Lib.hid (b5'.out.trans (b6.mono b5'.out.size)); clear b6) | (go_at_call 34; (with_reducible refine (C34.out _ b6'.out).mono ?_); rintro e w7 ⟨rfl, b7⟩; have b7' := Lib.hid (b6'.out.trans (b7.mono b6'.out.size)); clear b7))
  go_ret
  exact ⟨rfl, b7'.out⟩
end Go.Proofs.YtjigljpodkfchaaFmt

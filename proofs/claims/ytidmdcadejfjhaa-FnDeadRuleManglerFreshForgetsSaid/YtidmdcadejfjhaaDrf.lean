/- FnDeadRuleManglerFreshForgets: equality of complex selectors. -/
import Derived.Test.YtidmdcadejfjhaaDre
import Derived.BigRegion
set_option linter.unusedVariables false
set_option linter.unusedSimpArgs false
namespace Go.Proofs.Ytidmdcadejfjhaa
open Go.RowKit
set_option maxRecDepth 100000
set_option maxHeartbeats 4000000
theorem mtake {T K : Type} {f : T → K} {l : List T} {i : Nat} {x : T} (h : l[i]? = some x) : (l.take (i + 1)).map f = (l.take i).map f ++ [f x] := by
  rw [List.take_add_one, h, List.map_append]; rfl
theorem map_ne {T K : Type} {f : T → K} {l l' : List T} {i : Nat} {x x' : T} (h : l[i]? = some x) (h' : l'[i]? = some x') (hne : f x ≠ f x') : l.map f ≠ l'.map f := fun e => by
  have h1 : (l.map f)[i]? = (l'.map f)[i]? := by rw [e]
  rw [List.getElem?_map, List.getElem?_map, h, h'] at h1
  simp at h1
  exact hne h1
theorem map_ne_len {T K : Type} {f : T → K} {l l' : List T} (h : l.length ≠ l'.length) : l.map f ≠ l'.map f := fun e => h (by have := congrArg List.length e; simpa using this)
/-- what Equal of a subclass selector answers -/
def HEq' (K : Type) [DecidableEq K] (G : (Nat → Prop) → World → SubR K → Prop) : Prop := ∀ (O O' : Nat → Prop) (s s' : SubR K) (q : Value) (w : World), G O w s → G O' w s' → ∃ B, s.p = .pointer (some ⟨B, 0, none⟩) ∧ ((s.t = 106 ∧ Calls Try.prog 63 #[s.p, .iface s'.t s'.p, q] w (RetV (.bool (decide (s.k = s'.k))) w)) ∨ (s.t = 97 ∧ Calls Try.prog 58 #[s.p, .iface s'.t s'.p, q] w (RetV (.bool (decide (s.k = s'.k))) w)))
theorem segs6 {w : World} {b o : Nat} {v0 v1 v2 v3 v4 v5 : Value} (h : Seg w b o [v0, v1, v2, v3, v4, v5]) : w.cell? ⟨b, o, none⟩ = some v0 ∧ w.cell? ⟨b, o + 1, none⟩ = some v1 ∧ w.cell? ⟨b, o + 2, none⟩ = some v2 ∧ w.cell? ⟨b, o + 3, none⟩ = some v3 ∧ w.cell? ⟨b, o + 4, none⟩ = some v4 ∧ w.cell? ⟨b, o + 5, none⟩ = some v5 :=
  ⟨by simpa using h 0 _ rfl, h 1 _ rfl, h 2 _ rfl, h 3 _ rfl, h 4 _ rfl, h 5 _ rfl⟩
theorem segs3 {w : World} {b o : Nat} {v0 v1 v2 : Value} (h : Seg w b o [v0, v1, v2]) : w.cell? ⟨b, o, none⟩ = some v0 ∧ w.cell? ⟨b, o + 1, none⟩ = some v1 ∧ w.cell? ⟨b, o + 2, none⟩ = some v2 :=
  ⟨by simpa using h 0 _ rfl, h 1 _ rfl, h 2 _ rfl⟩
theorem m106 (a : Addr) (W : World) : (method 306 106 (.pointer (some a)) "Equal").run Try.prog W = .ok (63, .pointer (some a)) W := by kernel_rfl
theorem m97 (a : Addr) (W : World) : (method 306 97 (.pointer (some a)) "Equal").run Try.prog W = .ok (58, .pointer (some a)) W := by kernel_rfl
theorem cx42_c {K : Type} [DecidableEq K] {G : (Nat → Prop) → World → SubR K → Prop} (keep : KeepG G) (HE : HEq' K G) (O O' : Nat → Prop) (r r' : CxR K) (q : Value) (w : World) (h : GCx G O w r) (h' : GCx G O' w r') : Calls Try.prog 42 #[.agg r.arr, .agg r'.arr, q] w (RetV (.bool (decide (r.key = r'.key))) w) := by
  obtain ⟨a, c, ls⟩ := r
  obtain ⟨a', c', ls'⟩ := r'
  have HT : Hid (∀ W, Below w.heap.size w W → ls.map CpR.key = ls'.map CpR.key → RetV (.bool (decide (CxR.key ⟨a, c, ls⟩ = CxR.key ⟨a', c', ls'⟩))) w (.returned (.bool true)) W) := Lib.hid (fun W hb e => ⟨by rw [decide_eq_true]; exact e, hb⟩)
  have HF : Hid (∀ W, Below w.heap.size w W → ls.map CpR.key ≠ ls'.map CpR.key → RetV (.bool (decide (CxR.key ⟨a, c, ls⟩ = CxR.key ⟨a', c', ls'⟩))) w (.returned (.bool false)) W) := Lib.hid (fun W hb e => ⟨by rw [decide_eq_false]; exact e, hb⟩)
  generalize RetV (.bool (decide (CxR.key ⟨a, c, ls⟩ = CxR.key ⟨a', c', ls'⟩))) w = QQ at *
  have hl := h.2
  have hl' := h'.2
  have hG := Lib.hid h.1
  have hG' := Lib.hid h'.1
  show Calls Try.prog 42 #[.agg #[.slice a ls.length c], .agg #[.slice a' ls'.length c'], q] w QQ
  simp only at hl hl' hG hG'
  unfold maxLen at hl hl'
  clear h h'
  obtain ⟨n, hn⟩ : ∃ n, ls.length = n := ⟨_, rfl⟩
  obtain ⟨n', hn'⟩ : ∃ n, ls'.length = n := ⟨_, rfl⟩
  rw [hn] at hl ⊢
  rw [hn'] at hl' ⊢
  replace hn := Lib.hid hn
  replace hn' := Lib.hid hn'
  go_enter Try.func42, Try.ntmps42
  go_upto_region 1 with fail
  refine wp_gen (fun W hW => ?_)
  have hbW : Hid (Below w.heap.size w W) := Lib.hid (by rw [hW]; exact (ba _ _).alloc (by simp) _)
  have e3 : W.cell? ⟨w.heap.size, 0, none⟩ = some (.slice a n c) := by rw [hW]; simp [go_sem]
  have e4 : W.cell? ⟨w.heap.size + 1, 0, none⟩ = some (.slice a' n' c') := by rw [hW]; simp [go_sem]
  clear hW
  by_cases hnn : n = n'
  · subst hnn
    go_wp2
    go_loopw [24] (fun i wr => ∃ k : Nat, k ≤ n ∧ i = .int .i64 k ∧ (ls.take k).map CpR.key = (ls'.take k).map CpR.key ∧ Below W.heap.size W wr) (fun i _ => n - (intOf i).toNat)
    case atStart => exact ⟨0, by omega, rfl, by simp, Below.refl _ _⟩
    case round =>
      obtain ⟨k, hk, rfl, htk, hB⟩ := hrel
      obtain ⟨Wo, rfl⟩ : ∃ y, y = wr := ⟨_, rfl⟩
      replace htk := Lib.hid htk
      replace hB := Lib.hid hB
      have hBo := Lib.hid (hbW.out.trans (hB.out.mono hbW.out.size))
      have e3' := ac hB.out e3
      have e4' := ac hB.out e4
      by_cases hlt : k < n
      · obtain ⟨cp, hcp⟩ : ∃ x, ls[k]? = some x := ⟨_, List.getElem?_eq_getElem (by rw [hn.out]; exact hlt)⟩
        obtain ⟨cp', hcp'⟩ : ∃ x, ls'[k]? = some x := ⟨_, List.getElem?_eq_getElem (by rw [hn'.out]; exact hlt)⟩
        obtain ⟨g, rfl, -, hs, hg⟩ := (RCp.keep keep hG.out (Kc.of_below hBo.out) (fun _ _ q => q)) k cp hcp
        obtain ⟨g', rfl, -, hs', hg'⟩ := (RCp.keep keep hG'.out (Kc.of_below hBo.out) (fun _ _ q => q)) k cp' hcp'
        have hne := Lib.hid (fun (e : CpR.key cp ≠ CpR.key cp') => map_ne (f := CpR.key) hcp hcp' e)
        have hst := Lib.hid (fun (e : CpR.key cp = CpR.key cp') => show (ls.take (k + 1)).map CpR.key = (ls'.take (k + 1)).map CpR.key by rw [mtake hcp, mtake hcp', htk.out, e])
        clear hcp hcp'
        obtain ⟨pa, pc, ss⟩ := cp
        obtain ⟨pa', pc', ss'⟩ := cp'
        obtain ⟨hRS, hm1⟩ := hg
        obtain ⟨hRS', hm1'⟩ := hg'
        simp only at hRS hm1 hRS' hm1'
        unfold maxLen at hm1 hm1'
        obtain ⟨d0, d1, d2, d3, d4, d5⟩ := segs6 hs
        obtain ⟨f0, f1, f2, f3, f4, f5⟩ := segs6 hs'
        obtain ⟨m, hm⟩ : ∃ m, ss.length = m := ⟨_, rfl⟩
        obtain ⟨m', hm'⟩ : ∃ m, ss'.length = m := ⟨_, rfl⟩
        simp only [hm] at d1 hm1
        simp only [hm'] at f1 hm1'
        replace hm := Lib.hid hm; replace hm' := Lib.hid hm'; replace hRS := Lib.hid hRS; replace hRS' := Lib.hid hRS'
        clear hs hs'
        have i0 : (0 : Int) ≤ k := by omega
        have i1 : (k : Int) < n := by omega
        go_upto_region 6 with fail
        refine wp_gen (fun W1 hW => ?_)
        have b1 : Hid (Below Wo.heap.size Wo W1) := Lib.hid (by rw [hW]; exact ba _ _)
        have sv := Seg.new Wo [.pointer none, .slice pa m pc, .slice none 0 0, .int .i32 0, .int .u8 0, .bool false] 84
        have sv1 : Hid (Seg W1 Wo.heap.size 0 [.pointer none, .slice pa m pc, .slice none 0 0, .int .i32 0, .int .u8 0, .bool false]) := Lib.hid (by rw [hW]; exact sv)
        clear hW sv d0 d1 d2 d3 d4 d5
        replace e4' := ac b1.out e4'
        replace f0 := ac b1.out f0; replace f1 := ac b1.out f1; replace f2 := ac b1.out f2; replace f3 := ac b1.out f3; replace f4 := ac b1.out f4; replace f5 := ac b1.out f5
        go_upto_region 7 with fail
        refine wp_gen (fun W2 hW => ?_)
        have b2 : Hid (Below W1.heap.size W1 W2) := Lib.hid (by rw [hW]; exact ba _ _)
        have sv := Seg.new W1 [.pointer none, .slice pa' m' pc', .slice none 0 0, .int .i32 0, .int .u8 0, .bool false] 84
        have sv2 : Hid (Seg W2 W1.heap.size 0 [.pointer none, .slice pa' m' pc', .slice none 0 0, .int .i32 0, .int .u8 0, .bool false]) := Lib.hid (by rw [hW]; exact sv)
        clear hW sv f0 f1 f2 f3 f4 f5
        replace sv1 := Lib.hid (sv1.out.after b2.out)
        obtain ⟨d0, d1, d2, d3, d4, d5⟩ := segs6 sv1.out
        obtain ⟨f0, f1, f2, f3, f4, f5⟩ := segs6 sv2.out
        simp only [Nat.zero_add] at d0 d1 d2 d3 d4 d5 f0 f1 f2 f3 f4 f5
        have b02 : Hid (Below Wo.heap.size Wo W2) := Lib.hid (b1.out.trans (b2.out.mono b1.out.size))
        have bw2 : Hid (Below w.heap.size w W2) := Lib.hid (hBo.out.trans (b02.out.mono hBo.out.size))
        clear b1 b2 e3' e4'
        go_upto_region 9 with fail
        go_region
        go_upto_region 12 with fail
        refine drawn_tail 15 (by kernel_rfl) (by kernel_rfl) (by kernel_rfl) (fun Q hQ => ?_)
        simp only [List.take_succ_cons, List.take_zero, List.drop_succ_cons, List.drop_zero]
        iterate 2 quiet_step (fail)
        with_reducible refine quiet_val (.bool false) (by simp [Region.wanted, yielded]) (fun w _ => move_run rfl (by with_unfolding_all rfl)) ?_
        simp only [Act.put, List.setIfInBounds_toArray, List.set_cons_succ, List.set_cons_zero]
        iterate 2 (with_reducible refine quiet_no (by simp [Region.wanted, yielded]) ?_; simp only [Act.put, List.setIfInBounds_toArray, List.set_cons_succ, List.set_cons_zero])
        with_reducible refine quiet_val (.bool false) (by simp [Region.wanted, yielded]) (fun w _ => pick_run rfl (by with_unfolding_all rfl) (by with_unfolding_all rfl)) ?_
        simp only [Act.put, List.setIfInBounds_toArray, List.set_cons_succ, List.set_cons_zero]
        with_reducible refine quiet_val (.bool false) (by simp [Region.wanted, yielded]) (fun w _ => move_run rfl (by with_unfolding_all rfl)) ?_
        simp only [Act.put, List.setIfInBounds_toArray, List.set_cons_succ, List.set_cons_zero]
        iterate 8 (with_reducible refine quiet_no (by simp [Region.wanted, yielded]) ?_; simp only [Act.put, List.setIfInBounds_toArray, List.set_cons_succ, List.set_cons_zero])
        refine wpQuiet_nil ?_
        intro W3 hw
        have b3 : Hid (Below W2.heap.size W2 W3) := Lib.hid (by
          obtain ⟨⟨d, os⟩, rfl⟩ := hw
          exact below_regrown _ d os)
        clear hw
        have b03 := Lib.hid (b02.out.trans (b3.out.mono b02.out.size))
        have bw3 := Lib.hid (bw2.out.trans (b3.out.mono bw2.out.size))
        replace d1 := ac b3.out d1; replace f1 := ac b3.out f1
        replace hRS := Lib.hid (RSub.keep keep hRS.out (Kc.of_below (b03.out)) (fun _ _ q => q))
        replace hRS' := Lib.hid (RSub.keep keep hRS'.out (Kc.of_below (b03.out)) (fun _ _ q => q))
        clear d0 d2 d3 d4 d5 f0 f2 f3 f4 f5 b02 bw2 b3
        by_cases hmm : m = m'
        · subst hmm
          go_wp2
          go_loopw [85] (fun j wr => ∃ i : Nat, i ≤ m ∧ j = .int .i64 i ∧ (ss.take i).map SubR.k = (ss'.take i).map SubR.k ∧ Below W3.heap.size W3 wr) (fun j _ => m - (intOf j).toNat)
          case atStart => exact ⟨0, by omega, rfl, by simp, Below.refl _ _⟩
          case round =>
            obtain ⟨i, hi, rfl, hti, hBi⟩ := hrel
            obtain ⟨W4, rfl⟩ : ∃ y, y = wr := ⟨_, rfl⟩
            replace hti := Lib.hid hti
            replace hBi := Lib.hid hBi
            have bw4 := Lib.hid (bw3.out.trans (hBi.out.mono bw3.out.size))
            by_cases hltm : i < m
            · obtain ⟨s, hsq⟩ : ∃ x, ss[i]? = some x := ⟨_, List.getElem?_eq_getElem (by rw [hm.out]; exact hltm)⟩
              obtain ⟨s', hsq'⟩ : ∃ x, ss'[i]? = some x := ⟨_, List.getElem?_eq_getElem (by rw [hm'.out]; exact hltm)⟩
              obtain ⟨g2, rfl, -, hs, hg⟩ := (RSub.keep keep hRS.out (Kc.of_below hBi.out) (fun _ _ q => q)) i s hsq
              obtain ⟨g2', rfl, -, hs', hg'⟩ := (RSub.keep keep hRS'.out (Kc.of_below hBi.out) (fun _ _ q => q)) i s' hsq'
              have hnes := Lib.hid (fun (e : s.k ≠ s'.k) => show CpR.key ⟨some ⟨g2, 0, none⟩, pc, ss⟩ ≠ CpR.key ⟨some ⟨g2', 0, none⟩, pc', ss'⟩ from map_ne (f := SubR.k) hsq hsq' e)
              have hsts := Lib.hid (fun (e : s.k = s'.k) => show (ss.take (i + 1)).map SubR.k = (ss'.take (i + 1)).map SubR.k by rw [mtake hsq, mtake hsq', hti.out, e])
              clear hsq hsq'
              obtain ⟨st, sp, sk⟩ := s
              obtain ⟨st', sp', sk'⟩ := s'
              obtain ⟨j0, j1, j2⟩ := segs3 hs
              obtain ⟨k0, k1, k2⟩ := segs3 hs'
              simp only at hnes hsts
              replace f1 := ac hBi.out f1
              replace d1 := ac hBi.out d1
              replace hg := Lib.hid hg
              replace hg' := Lib.hid hg'
              clear hs hs'
              have q0 : (0 : Int) ≤ i := by omega
              have q1 : (i : Int) < m := by omega
              go_upto_region 19 with fail
              refine wp_gen (fun W5 hW => ?_)
              have b5 : Hid (Below W4.heap.size W4 W5) := Lib.hid (by rw [hW]; exact ba _ _)
              have n0 : W5.cell? ⟨W4.heap.size, 0, none⟩ = some (.iface st sp) := by rw [hW]; simp [go_sem]
              clear hW j0 j1 j2
              replace f1 := ac b5.out f1
              replace k0 := ac b5.out k0
              have hg5 := Lib.hid (keep _ _ _ _ _ hg.out (Kc.of_below b5.out) (fun _ _ q => q))
              have hg5' := Lib.hid (keep _ _ _ _ _ hg'.out (Kc.of_below b5.out) (fun _ _ q => q))
              have bw5 := Lib.hid (bw4.out.trans (b5.out.mono bw4.out.size))
              have bm5 := Lib.hid (hBi.out.trans (b5.out.mono hBi.out.size))
              clear k1 k2 d1 hg hg' b5
              obtain ⟨B, hp, hc⟩ := HE O O' ⟨st, sp, sk⟩ ⟨st', sp', sk'⟩ q W5 hg5.out hg5'.out
              rcases hc with ⟨ht, hc⟩ | ⟨ht, hc⟩
              · subst ht
                have CE : Hid (∀ d os, Calls Try.prog 63 #[.pointer (some ⟨B, 0, none⟩), .iface st' sp', q] (Sort.grow (redrawn W5 d) os) (RetV (.bool (decide (sk = sk'))) (Sort.grow (redrawn W5 d) os))) := Lib.hid (fun d os => by
                  obtain ⟨B2, hp2, hc2⟩ := HE O O' ⟨106, sp, sk⟩ ⟨st', sp', sk'⟩ q _ (keep _ _ _ _ _ hg5.out (Kc.of_below (below_regrown W5 d os)) (fun _ _ q => q)) (keep _ _ _ _ _ hg5'.out (Kc.of_below (below_regrown W5 d os)) (fun _ _ q => q))
                  simp only at hp hp2 hc2
                  rw [hp] at hc2
                  rcases hc2 with ⟨h1, h2⟩ | ⟨h1, h2⟩
                  · exact h2
                  · cases h1)
                simp only at hp
                subst hp
                replace hc := hc
                have M := m106
                clear hc
                obtain ⟨bb, hbb⟩ : ∃ y, decide (sk = sk') = y := ⟨_, rfl⟩
                rw [hbb] at CE
                replace hbb := Lib.hid hbb
                have x0 := fun d os => cell_regrown n0 d os
                have x1 := fun d os => cell_regrown f1 d os
                have x2 := fun d os => cell_regrown k0 d os
                go_upto_region 19 with fail
                refine drawn_tail 12 (by kernel_rfl) (by kernel_rfl) (by kernel_rfl) (fun Q hQ => ?_)
                simp only [List.take_succ_cons, List.take_zero, List.drop_succ_cons, List.drop_zero]
                repeat (quiet_step (exact Calls.regrown_of (CE.out _ _)))
                refine wpQuiet_nil ?_
                intro W6 hw
                have b6 : Hid (Below W5.heap.size W5 W6) := Lib.hid (by
                  obtain ⟨⟨d, os⟩, rfl⟩ := hw
                  exact below_regrown _ d os)
                clear hw x0 x1 x2 M
                have bw6 := Lib.hid (bw5.out.trans (b6.out.mono bw5.out.size))
                have bm6 := Lib.hid (bm5.out.trans (b6.out.mono bm5.out.size))
                cases bb
                · have hF := HF.out W6 bw6.out (hne.out (hnes.out (of_decide_eq_false hbb.out)))
                  go_wp2
                  exact hF
                · have hS := hsts.out (of_decide_eq_true hbb.out)
                  go_wp2
                  exact ⟨⟨i + 1, by omega, by go_num, hS, bm6.out⟩, by simp [intOf]; omega⟩
              · subst ht
                have CE : Hid (∀ d os, Calls Try.prog 58 #[.pointer (some ⟨B, 0, none⟩), .iface st' sp', q] (Sort.grow (redrawn W5 d) os) (RetV (.bool (decide (sk = sk'))) (Sort.grow (redrawn W5 d) os))) := Lib.hid (fun d os => by
                  obtain ⟨B2, hp2, hc2⟩ := HE O O' ⟨97, sp, sk⟩ ⟨st', sp', sk'⟩ q _ (keep _ _ _ _ _ hg5.out (Kc.of_below (below_regrown W5 d os)) (fun _ _ q => q)) (keep _ _ _ _ _ hg5'.out (Kc.of_below (below_regrown W5 d os)) (fun _ _ q => q))
                  simp only at hp hp2 hc2
                  rw [hp] at hc2
                  rcases hc2 with ⟨h1, h2⟩ | ⟨h1, h2⟩
                  · cases h1
                  · exact h2)
                simp only at hp
                subst hp
                replace hc := hc
                have M := m97
                clear hc
                obtain ⟨bb, hbb⟩ : ∃ y, decide (sk = sk') = y := ⟨_, rfl⟩
                rw [hbb] at CE
                replace hbb := Lib.hid hbb
                have x0 := fun d os => cell_regrown n0 d os
                have x1 := fun d os => cell_regrown f1 d os
                have x2 := fun d os => cell_regrown k0 d os
                go_upto_region 19 with fail
                refine drawn_tail 12 (by kernel_rfl) (by kernel_rfl) (by kernel_rfl) (fun Q hQ => ?_)
                simp only [List.take_succ_cons, List.take_zero, List.drop_succ_cons, List.drop_zero]
                repeat (quiet_step (exact Calls.regrown_of (CE.out _ _)))
                refine wpQuiet_nil ?_
                intro W6 hw
                have b6 : Hid (Below W5.heap.size W5 W6) := Lib.hid (by
                  obtain ⟨⟨d, os⟩, rfl⟩ := hw
                  exact below_regrown _ d os)
                clear hw x0 x1 x2 M
                have bw6 := Lib.hid (bw5.out.trans (b6.out.mono bw5.out.size))
                have bm6 := Lib.hid (bm5.out.trans (b6.out.mono bm5.out.size))
                cases bb
                · have hF := HF.out W6 bw6.out (hne.out (hnes.out (of_decide_eq_false hbb.out)))
                  go_wp2
                  exact hF
                · have hS := hsts.out (of_decide_eq_true hbb.out)
                  go_wp2
                  exact ⟨⟨i + 1, by omega, by go_num, hS, bm6.out⟩, by simp [intOf]; omega⟩
            · obtain rfl : i = m := by omega
              have hS : (ls.take (k + 1)).map CpR.key = (ls'.take (k + 1)).map CpR.key := hst.out (by
                have := hti.out
                rw [List.take_of_length_le (by rw [hm.out]; exact Nat.le_refl _), List.take_of_length_le (by rw [hm'.out]; exact Nat.le_refl _)] at this
                exact this)
              have b04 : Below W.heap.size W W4 := hB.out.trans ((b03.out.trans (hBi.out.mono b03.out.size)).mono hB.out.size)
              replace hS := Lib.hid hS
              replace b04 := Lib.hid b04
              obtain ⟨v6, hv6⟩ : ∃ y : Int, (i : Int) = y := ⟨_, rfl⟩
              have hv7 : ¬ v6 < i := by omega
              rw [hv6]
              clear hv6
              go_wp2
              exact ⟨⟨k + 1, by omega, by go_num, hS.out, b04.out⟩, by simp [intOf]; omega⟩
        · have t1 : ((m : Int) == (m' : Int)) = false := by simp; omega
          have hF := HF.out W3 bw3.out (hne.out (by show ss.map SubR.k ≠ ss'.map SubR.k; exact map_ne_len (by rw [hm.out, hm'.out]; exact hmm)))
          go_wp2
          exact hF
      · obtain rfl : k = n := by omega
        have hT := HT.out Wo hBo.out (by
          have := htk.out
          rw [List.take_of_length_le (by rw [hn.out]; exact Nat.le_refl _), List.take_of_length_le (by rw [hn'.out]; exact Nat.le_refl _)] at this
          exact this)
        go_wp2
        exact hT
  · have t1 : ((n : Int) == (n' : Int)) = false := by simp; omega
    have hF := HF.out W hbW.out (map_ne_len (by rw [hn.out, hn'.out]; exact hnn))
    go_wp2
    exact hF
end Go.Proofs.Ytidmdcadejfjhaa
